/-
  NARROWER THAN 'FOR EVERY INPUT', by the rows' own cells (each row's printed sentence says how): FnErrorsToStringBlockCarriesText: laid · FnFormatMessagesSingleHeader: laid · FnFormatMessagesElementwise: laid · FnErrorsToStringShowsFirstFiveThenOneNotice: laid.
  DERIVED. THE GIVEN ROWS OF THIS SEAT. 4 by the template 'for every input the law returns true; each argument reads behind the call as it read before'; 0 by the template 'total and deterministic' (their statements: YtcmajdimggdkoaaFmtTotals.lean).
  GIVEN WITH THE SEED: the statements are not yours to turn. If you find one false, say at which input.
  Laid BY PROGRAM, IN A SANDBOX (cutbox-rows.mjs): the forced cells as the released guide's own fill.sh prints them over the translation 6acb05634fef95ea… (all of the seat's roots in one cut). By AI agents, Wed Nov 11 2026. No macro, syntax, notation, axiom, sorry.
-/
import Derived.Test.YtcmajdimggdkoaaFmtChecked
import GoSem.PinnedTables
import GoSem.Claim
import GoSem.ClaimJoined
import GoSem.ClaimMapViews
import Derived.JoinedTies
import Derived.KernelRfl
namespace Go.Proofs.YtcmajdimggdkoaaFmt
/- THE CELL 'sum', in the pinned program and in every row, IS THE sha256 OF THE DUMP (.gsa) THAT YtcmajdimggdkoaaFmtProg.lean LOADS. Nothing in Lean hashes anything: it is a label: what it is worth is what the hold of that sum in a sandbox is worth. -/
noncomputable def Tryf.pinned : Pinned := { name := "ytcmajdimggdkoaafmt", sum := "6acb05634fef95ea4f058f4c2220765f2458d35e41b76b79621ad3e165b845f4", checked := Tryf.checked }
namespace Rows
def none {H : Type} : Left H := { results := [], args := [] }

/- WHAT THE LISTED PACKAGE-LEVEL VARIABLES READ AS WHEN THE CALL BEGINS. Each datum BY PROGRAM (the guide's laid-datum.mjs) off the statement by which the dump's own 'gosem.cut.vars' lays the variable. In a bare row this is a premise. The card (YtcmajdimggdkoaaFmtCards.lean) ties it to the program's text. -/
def laid_unicode_utf8_acceptRanges {H : Type} : DataW H := .agg [.agg [.lit (.int .u8 128), .lit (.int .u8 191)], .agg [.lit (.int .u8 160), .lit (.int .u8 191)], .agg [.lit (.int .u8 128), .lit (.int .u8 159)], .agg [.lit (.int .u8 144), .lit (.int .u8 191)], .agg [.lit (.int .u8 128), .lit (.int .u8 143)], .agg [.lit (.int .u8 0), .lit (.int .u8 0)], .agg [.lit (.int .u8 0), .lit (.int .u8 0)], .agg [.lit (.int .u8 0), .lit (.int .u8 0)], .agg [.lit (.int .u8 0), .lit (.int .u8 0)], .agg [.lit (.int .u8 0), .lit (.int .u8 0)], .agg [.lit (.int .u8 0), .lit (.int .u8 0)], .agg [.lit (.int .u8 0), .lit (.int .u8 0)], .agg [.lit (.int .u8 0), .lit (.int .u8 0)], .agg [.lit (.int .u8 0), .lit (.int .u8 0)], .agg [.lit (.int .u8 0), .lit (.int .u8 0)], .agg [.lit (.int .u8 0), .lit (.int .u8 0)]]
def laid_github_com_evanw_esbuild_internal_logger_TerminalColors {H : Type} : DataW H := .agg [.lit (.string [27, 91, 48, 109]), .lit (.string [27, 91, 49, 109]), .lit (.string [27, 91, 51, 55, 109]), .lit (.string [27, 91, 52, 109]), .lit (.string [27, 91, 51, 49, 109]), .lit (.string [27, 91, 51, 50, 109]), .lit (.string [27, 91, 51, 52, 109]), .lit (.string [27, 91, 51, 54, 109]), .lit (.string [27, 91, 51, 53, 109]), .lit (.string [27, 91, 51, 51, 109]), .lit (.string [27, 91, 52, 49, 59, 51, 49, 109]), .lit (.string [27, 91, 52, 49, 59, 57, 55, 109]), .lit (.string [27, 91, 52, 50, 59, 51, 50, 109]), .lit (.string [27, 91, 52, 50, 59, 57, 55, 109]), .lit (.string [27, 91, 52, 52, 59, 51, 52, 109]), .lit (.string [27, 91, 52, 52, 59, 57, 55, 109]), .lit (.string [27, 91, 52, 54, 59, 51, 54, 109]), .lit (.string [27, 91, 52, 54, 59, 51, 48, 109]), .lit (.string [27, 91, 52, 53, 59, 51, 53, 109]), .lit (.string [27, 91, 52, 53, 59, 51, 48, 109]), .lit (.string [27, 91, 52, 51, 59, 51, 51, 109]), .lit (.string [27, 91, 52, 51, 59, 51, 48, 109])]
/-- One of Go's own tables, pinned by name: the form's constant. -/
def laid_unicode_utf8_first : DataW Unit := Go.Pinned.utf8First

/-- 'n011_24.FnErrorsToStringBlockCarriesText': WHATEVER THE INPUT: true; the input reads as it did. -/
def fnErrorsToStringBlockCarriesTextSpec : ChangeSpec := { name := "fnErrorsToStringBlockCarriesText", vars := ["github.com/evanw/esbuild/internal/logger.TerminalColors"], fn := fun _ => fun
  | [d, g1] => { results := [.lit (.bool true)], args := [d], vars := [g1] }
  | _ => none }
def fnErrorsToStringBlockCarriesTextRow : OpenClaim := { program := "ytcmajdimggdkoaafmt", sum := "6acb05634fef95ea4f058f4c2220765f2458d35e41b76b79621ad3e165b845f4", func := "github.com/evanw/esbuild/n011_24.FnErrorsToStringBlockCarriesText", spec := "fnErrorsToStringBlockCarriesText", stops := ["fmt.Sprintf"], inPlace := ["fmt.Sprintf", "internal/abi.NoEscape", "internal/bytealg.IndexByteString", "internal/bytealg.MakeNoZero"], named := ["github.com/evanw/esbuild/internal/logger.TerminalColors", "unicode/utf8.first", "unicode/utf8.acceptRanges"], apart := false, laid := [("unicode/utf8.acceptRanges", laid_unicode_utf8_acceptRanges), ("github.com/evanw/esbuild/internal/logger.TerminalColors", laid_github_com_evanw_esbuild_internal_logger_TerminalColors), ("unicode/utf8.first", laid_unicode_utf8_first)] }
/-- NO THEOREM (fmt's text is open here; it may be false): for the released tool's asking of the row's closed facts alone. THE STATEMENT IS 'FnErrorsToStringBlockCarriesTextToldSaid' (YtcmajdimggdkoaaFmtCards.lean). -/
def FnErrorsToStringBlockCarriesTextFormAsk : Prop := fnErrorsToStringBlockCarriesTextRow.holds Tryf.pinned (OpenSpec.ofChange fnErrorsToStringBlockCarriesTextSpec)

/-- ITS FALSE NEIGHBOUR: 'it returns false'. Refute it at one input. -/
def fnErrorsToStringBlockCarriesTextWrong : ChangeSpec := { name := "fnErrorsToStringBlockCarriesText", vars := ["github.com/evanw/esbuild/internal/logger.TerminalColors"], fn := fun _ => fun
  | [d, g1] => { results := [.lit (.bool false)], args := [d], vars := [g1] }
  | _ => none }
def FnErrorsToStringBlockCarriesTextWrongFormAsk : Prop := fnErrorsToStringBlockCarriesTextRow.holds Tryf.pinned (OpenSpec.ofChange fnErrorsToStringBlockCarriesTextWrong)

/-- 'n011_216.FnFormatMessagesSingleHeader': WHATEVER THE INPUT: true; the input reads as it did. -/
def fnFormatMessagesSingleHeaderSpec : ChangeSpec := { name := "fnFormatMessagesSingleHeader", vars := ["github.com/evanw/esbuild/internal/logger.TerminalColors"], fn := fun _ => fun
  | [d1, d2, g1] => { results := [.lit (.bool true)], args := [d1, d2], vars := [g1] }
  | _ => none }
def fnFormatMessagesSingleHeaderRow : OpenClaim := { program := "ytcmajdimggdkoaafmt", sum := "6acb05634fef95ea4f058f4c2220765f2458d35e41b76b79621ad3e165b845f4", func := "github.com/evanw/esbuild/n011_216.FnFormatMessagesSingleHeader", spec := "fnFormatMessagesSingleHeader", stops := ["fmt.Sprintf"], inPlace := ["internal/abi.NoEscape", "fmt.Sprintf", "internal/bytealg.IndexByteString", "internal/bytealg.MakeNoZero"], named := ["github.com/evanw/esbuild/internal/logger.TerminalColors", "unicode/utf8.first", "unicode/utf8.acceptRanges"], apart := false, laid := [("unicode/utf8.acceptRanges", laid_unicode_utf8_acceptRanges), ("github.com/evanw/esbuild/internal/logger.TerminalColors", laid_github_com_evanw_esbuild_internal_logger_TerminalColors), ("unicode/utf8.first", laid_unicode_utf8_first)] }
/-- NO THEOREM (fmt's text is open here; it may be false): for the released tool's asking of the row's closed facts alone. THE STATEMENT IS 'FnFormatMessagesSingleHeaderToldSaid' (YtcmajdimggdkoaaFmtCards.lean). -/
def FnFormatMessagesSingleHeaderFormAsk : Prop := fnFormatMessagesSingleHeaderRow.holds Tryf.pinned (OpenSpec.ofChange fnFormatMessagesSingleHeaderSpec)

/-- ITS FALSE NEIGHBOUR: 'it returns false'. Refute it at one input. -/
def fnFormatMessagesSingleHeaderWrong : ChangeSpec := { name := "fnFormatMessagesSingleHeader", vars := ["github.com/evanw/esbuild/internal/logger.TerminalColors"], fn := fun _ => fun
  | [d1, d2, g1] => { results := [.lit (.bool false)], args := [d1, d2], vars := [g1] }
  | _ => none }
def FnFormatMessagesSingleHeaderWrongFormAsk : Prop := fnFormatMessagesSingleHeaderRow.holds Tryf.pinned (OpenSpec.ofChange fnFormatMessagesSingleHeaderWrong)

/-- 'n011_216.FnFormatMessagesElementwise': WHATEVER THE INPUT: true; the input reads as it did. -/
def fnFormatMessagesElementwiseSpec : ChangeSpec := { name := "fnFormatMessagesElementwise", vars := ["github.com/evanw/esbuild/internal/logger.TerminalColors"], fn := fun _ => fun
  | [d1, d2, g1] => { results := [.lit (.bool true)], args := [d1, d2], vars := [g1] }
  | _ => none }
def fnFormatMessagesElementwiseRow : OpenClaim := { program := "ytcmajdimggdkoaafmt", sum := "6acb05634fef95ea4f058f4c2220765f2458d35e41b76b79621ad3e165b845f4", func := "github.com/evanw/esbuild/n011_216.FnFormatMessagesElementwise", spec := "fnFormatMessagesElementwise", stops := ["fmt.Sprintf"], inPlace := ["internal/abi.NoEscape", "fmt.Sprintf", "internal/bytealg.IndexByteString", "internal/bytealg.MakeNoZero"], named := ["github.com/evanw/esbuild/internal/logger.TerminalColors", "unicode/utf8.first", "unicode/utf8.acceptRanges"], apart := false, laid := [("unicode/utf8.acceptRanges", laid_unicode_utf8_acceptRanges), ("github.com/evanw/esbuild/internal/logger.TerminalColors", laid_github_com_evanw_esbuild_internal_logger_TerminalColors), ("unicode/utf8.first", laid_unicode_utf8_first)] }
/-- NO THEOREM (fmt's text is open here; it may be false): for the released tool's asking of the row's closed facts alone. THE STATEMENT IS 'FnFormatMessagesElementwiseToldSaid' (YtcmajdimggdkoaaFmtCards.lean). -/
def FnFormatMessagesElementwiseFormAsk : Prop := fnFormatMessagesElementwiseRow.holds Tryf.pinned (OpenSpec.ofChange fnFormatMessagesElementwiseSpec)

/-- ITS FALSE NEIGHBOUR: 'it returns false'. Refute it at one input. -/
def fnFormatMessagesElementwiseWrong : ChangeSpec := { name := "fnFormatMessagesElementwise", vars := ["github.com/evanw/esbuild/internal/logger.TerminalColors"], fn := fun _ => fun
  | [d1, d2, g1] => { results := [.lit (.bool false)], args := [d1, d2], vars := [g1] }
  | _ => none }
def FnFormatMessagesElementwiseWrongFormAsk : Prop := fnFormatMessagesElementwiseRow.holds Tryf.pinned (OpenSpec.ofChange fnFormatMessagesElementwiseWrong)

/-- 'n011_24.FnErrorsToStringShowsFirstFiveThenOneNotice': WHATEVER THE INPUT: true; the input reads as it did. -/
def fnErrorsToStringShowsFirstFiveThenOneNoticeSpec : ChangeSpec := { name := "fnErrorsToStringShowsFirstFiveThenOneNotice", vars := ["github.com/evanw/esbuild/internal/logger.TerminalColors"], fn := fun _ => fun
  | [d1, d2, g1] => { results := [.lit (.bool true)], args := [d1, d2], vars := [g1] }
  | _ => none }
def fnErrorsToStringShowsFirstFiveThenOneNoticeRow : OpenClaim := { program := "ytcmajdimggdkoaafmt", sum := "6acb05634fef95ea4f058f4c2220765f2458d35e41b76b79621ad3e165b845f4", func := "github.com/evanw/esbuild/n011_24.FnErrorsToStringShowsFirstFiveThenOneNotice", spec := "fnErrorsToStringShowsFirstFiveThenOneNotice", stops := ["fmt.Sprintf"], inPlace := ["fmt.Sprintf", "internal/abi.NoEscape", "internal/bytealg.IndexByteString", "internal/bytealg.MakeNoZero"], named := ["github.com/evanw/esbuild/internal/logger.TerminalColors", "unicode/utf8.first", "unicode/utf8.acceptRanges"], apart := false, laid := [("unicode/utf8.acceptRanges", laid_unicode_utf8_acceptRanges), ("github.com/evanw/esbuild/internal/logger.TerminalColors", laid_github_com_evanw_esbuild_internal_logger_TerminalColors), ("unicode/utf8.first", laid_unicode_utf8_first)] }
/-- NO THEOREM (fmt's text is open here; it may be false): for the released tool's asking of the row's closed facts alone. THE STATEMENT IS 'FnErrorsToStringShowsFirstFiveThenOneNoticeToldSaid' (YtcmajdimggdkoaaFmtCards.lean). -/
def FnErrorsToStringShowsFirstFiveThenOneNoticeFormAsk : Prop := fnErrorsToStringShowsFirstFiveThenOneNoticeRow.holds Tryf.pinned (OpenSpec.ofChange fnErrorsToStringShowsFirstFiveThenOneNoticeSpec)

/-- ITS FALSE NEIGHBOUR: 'it returns false'. Refute it at one input. -/
def fnErrorsToStringShowsFirstFiveThenOneNoticeWrong : ChangeSpec := { name := "fnErrorsToStringShowsFirstFiveThenOneNotice", vars := ["github.com/evanw/esbuild/internal/logger.TerminalColors"], fn := fun _ => fun
  | [d1, d2, g1] => { results := [.lit (.bool false)], args := [d1, d2], vars := [g1] }
  | _ => none }
def FnErrorsToStringShowsFirstFiveThenOneNoticeWrongFormAsk : Prop := fnErrorsToStringShowsFirstFiveThenOneNoticeRow.holds Tryf.pinned (OpenSpec.ofChange fnErrorsToStringShowsFirstFiveThenOneNoticeWrong)

end Rows
end Go.Proofs.YtcmajdimggdkoaaFmt

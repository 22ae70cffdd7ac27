/-
  NARROWER THAN 'FOR EVERY INPUT', by the rows' own cells (each row's printed sentence says how): FnDecodeDataBase64RoundTrip: laid · FnShortestDataURLIsShorterOfTwoForms: laid · FnDecodeDataPercentSpec: laid · FnShortestDataURLDecodesBackAndIsNoLonger: laid.
  DERIVED. THE GIVEN ROWS OF THIS SEAT. 4 by the template 'for every input the law returns true; each argument reads behind the call as it read before'; 0 by the template 'total and deterministic' (their statements: YtfimnjdfchdldaaFmtTotals.lean).
  GIVEN WITH THE SEED: the statements are not yours to turn. If you find one false, say at which input.
  Laid BY PROGRAM, IN A SANDBOX (cutbox-rows.mjs): the forced cells as the released guide's own fill.sh prints them over the translation fcac8b20ea6259b0… (all of the seat's roots in one cut). By AI agents, Wed Nov 11 2026. No macro, syntax, notation, axiom, sorry.
-/
import Derived.Test.YtfimnjdfchdldaaFmtChecked
import GoSem.PinnedTables
import GoSem.Claim
import GoSem.ClaimJoined
import GoSem.ClaimMapViews
import Derived.JoinedTies
import Derived.KernelRfl
namespace Go.Proofs.YtfimnjdfchdldaaFmt
/- THE CELL 'sum', in the pinned program and in every row, IS THE sha256 OF THE DUMP (.gsa) THAT YtfimnjdfchdldaaFmtProg.lean LOADS. Nothing in Lean hashes anything: it is a label: what it is worth is what the hold of that sum in a sandbox is worth. -/
noncomputable def Tryf.pinned : Pinned := { name := "ytfimnjdfchdldaafmt", sum := "fcac8b20ea6259b029d07a7a9d81cd11f9d031128a9b8463883caa62f20cbb0d", checked := Tryf.checked }
namespace Rows
def none {H : Type} : Left H := { results := [], args := [] }

/- WHAT THE LISTED PACKAGE-LEVEL VARIABLES READ AS WHEN THE CALL BEGINS. Each datum BY PROGRAM (the guide's laid-datum.mjs) off the statement by which the dump's own 'gosem.cut.vars' lays the variable. In a bare row this is a premise. The card (YtfimnjdfchdldaaFmtCards.lean) ties it to the program's text. -/
def laid_net_url_table {H : Type} : DataW H := .agg [.lit (.int .u8 0), .lit (.int .u8 0), .lit (.int .u8 0), .lit (.int .u8 0), .lit (.int .u8 0), .lit (.int .u8 0), .lit (.int .u8 0), .lit (.int .u8 0), .lit (.int .u8 0), .lit (.int .u8 0), .lit (.int .u8 0), .lit (.int .u8 0), .lit (.int .u8 0), .lit (.int .u8 0), .lit (.int .u8 0), .lit (.int .u8 0), .lit (.int .u8 0), .lit (.int .u8 0), .lit (.int .u8 0), .lit (.int .u8 0), .lit (.int .u8 0), .lit (.int .u8 0), .lit (.int .u8 0), .lit (.int .u8 0), .lit (.int .u8 0), .lit (.int .u8 0), .lit (.int .u8 0), .lit (.int .u8 0), .lit (.int .u8 0), .lit (.int .u8 0), .lit (.int .u8 0), .lit (.int .u8 0), .lit (.int .u8 0), .lit (.int .u8 76), .lit (.int .u8 12), .lit (.int .u8 0), .lit (.int .u8 95), .lit (.int .u8 0), .lit (.int .u8 95), .lit (.int .u8 12), .lit (.int .u8 76), .lit (.int .u8 76), .lit (.int .u8 76), .lit (.int .u8 95), .lit (.int .u8 93), .lit (.int .u8 127), .lit (.int .u8 127), .lit (.int .u8 65), .lit (.int .u8 255), .lit (.int .u8 255), .lit (.int .u8 255), .lit (.int .u8 255), .lit (.int .u8 255), .lit (.int .u8 255), .lit (.int .u8 255), .lit (.int .u8 255), .lit (.int .u8 255), .lit (.int .u8 255), .lit (.int .u8 79), .lit (.int .u8 93), .lit (.int .u8 12), .lit (.int .u8 95), .lit (.int .u8 12), .lit (.int .u8 64), .lit (.int .u8 67), .lit (.int .u8 255), .lit (.int .u8 255), .lit (.int .u8 255), .lit (.int .u8 255), .lit (.int .u8 255), .lit (.int .u8 255), .lit (.int .u8 127), .lit (.int .u8 127), .lit (.int .u8 127), .lit (.int .u8 127), .lit (.int .u8 127), .lit (.int .u8 127), .lit (.int .u8 127), .lit (.int .u8 127), .lit (.int .u8 127), .lit (.int .u8 127), .lit (.int .u8 127), .lit (.int .u8 127), .lit (.int .u8 127), .lit (.int .u8 127), .lit (.int .u8 127), .lit (.int .u8 127), .lit (.int .u8 127), .lit (.int .u8 127), .lit (.int .u8 127), .lit (.int .u8 127), .lit (.int .u8 12), .lit (.int .u8 0), .lit (.int .u8 12), .lit (.int .u8 0), .lit (.int .u8 127), .lit (.int .u8 0), .lit (.int .u8 255), .lit (.int .u8 255), .lit (.int .u8 255), .lit (.int .u8 255), .lit (.int .u8 255), .lit (.int .u8 255), .lit (.int .u8 127), .lit (.int .u8 127), .lit (.int .u8 127), .lit (.int .u8 127), .lit (.int .u8 127), .lit (.int .u8 127), .lit (.int .u8 127), .lit (.int .u8 127), .lit (.int .u8 127), .lit (.int .u8 127), .lit (.int .u8 127), .lit (.int .u8 127), .lit (.int .u8 127), .lit (.int .u8 127), .lit (.int .u8 127), .lit (.int .u8 127), .lit (.int .u8 127), .lit (.int .u8 127), .lit (.int .u8 127), .lit (.int .u8 127), .lit (.int .u8 0), .lit (.int .u8 0), .lit (.int .u8 0), .lit (.int .u8 127), .lit (.int .u8 0), .lit (.int .u8 0), .lit (.int .u8 0), .lit (.int .u8 0), .lit (.int .u8 0), .lit (.int .u8 0), .lit (.int .u8 0), .lit (.int .u8 0), .lit (.int .u8 0), .lit (.int .u8 0), .lit (.int .u8 0), .lit (.int .u8 0), .lit (.int .u8 0), .lit (.int .u8 0), .lit (.int .u8 0), .lit (.int .u8 0), .lit (.int .u8 0), .lit (.int .u8 0), .lit (.int .u8 0), .lit (.int .u8 0), .lit (.int .u8 0), .lit (.int .u8 0), .lit (.int .u8 0), .lit (.int .u8 0), .lit (.int .u8 0), .lit (.int .u8 0), .lit (.int .u8 0), .lit (.int .u8 0), .lit (.int .u8 0), .lit (.int .u8 0), .lit (.int .u8 0), .lit (.int .u8 0), .lit (.int .u8 0), .lit (.int .u8 0), .lit (.int .u8 0), .lit (.int .u8 0), .lit (.int .u8 0), .lit (.int .u8 0), .lit (.int .u8 0), .lit (.int .u8 0), .lit (.int .u8 0), .lit (.int .u8 0), .lit (.int .u8 0), .lit (.int .u8 0), .lit (.int .u8 0), .lit (.int .u8 0), .lit (.int .u8 0), .lit (.int .u8 0), .lit (.int .u8 0), .lit (.int .u8 0), .lit (.int .u8 0), .lit (.int .u8 0), .lit (.int .u8 0), .lit (.int .u8 0), .lit (.int .u8 0), .lit (.int .u8 0), .lit (.int .u8 0), .lit (.int .u8 0), .lit (.int .u8 0), .lit (.int .u8 0), .lit (.int .u8 0), .lit (.int .u8 0), .lit (.int .u8 0), .lit (.int .u8 0), .lit (.int .u8 0), .lit (.int .u8 0), .lit (.int .u8 0), .lit (.int .u8 0), .lit (.int .u8 0), .lit (.int .u8 0), .lit (.int .u8 0), .lit (.int .u8 0), .lit (.int .u8 0), .lit (.int .u8 0), .lit (.int .u8 0), .lit (.int .u8 0), .lit (.int .u8 0), .lit (.int .u8 0), .lit (.int .u8 0), .lit (.int .u8 0), .lit (.int .u8 0), .lit (.int .u8 0), .lit (.int .u8 0), .lit (.int .u8 0), .lit (.int .u8 0), .lit (.int .u8 0), .lit (.int .u8 0), .lit (.int .u8 0), .lit (.int .u8 0), .lit (.int .u8 0), .lit (.int .u8 0), .lit (.int .u8 0), .lit (.int .u8 0), .lit (.int .u8 0), .lit (.int .u8 0), .lit (.int .u8 0), .lit (.int .u8 0), .lit (.int .u8 0), .lit (.int .u8 0), .lit (.int .u8 0), .lit (.int .u8 0), .lit (.int .u8 0), .lit (.int .u8 0), .lit (.int .u8 0), .lit (.int .u8 0), .lit (.int .u8 0), .lit (.int .u8 0), .lit (.int .u8 0), .lit (.int .u8 0), .lit (.int .u8 0), .lit (.int .u8 0), .lit (.int .u8 0), .lit (.int .u8 0), .lit (.int .u8 0), .lit (.int .u8 0), .lit (.int .u8 0), .lit (.int .u8 0), .lit (.int .u8 0), .lit (.int .u8 0), .lit (.int .u8 0), .lit (.int .u8 0), .lit (.int .u8 0), .lit (.int .u8 0), .lit (.int .u8 0), .lit (.int .u8 0), .lit (.int .u8 0), .lit (.int .u8 0), .lit (.int .u8 0), .lit (.int .u8 0)]
def laid_unicode_utf8_acceptRanges {H : Type} : DataW H := .agg [.agg [.lit (.int .u8 128), .lit (.int .u8 191)], .agg [.lit (.int .u8 160), .lit (.int .u8 191)], .agg [.lit (.int .u8 128), .lit (.int .u8 159)], .agg [.lit (.int .u8 144), .lit (.int .u8 191)], .agg [.lit (.int .u8 128), .lit (.int .u8 143)], .agg [.lit (.int .u8 0), .lit (.int .u8 0)], .agg [.lit (.int .u8 0), .lit (.int .u8 0)], .agg [.lit (.int .u8 0), .lit (.int .u8 0)], .agg [.lit (.int .u8 0), .lit (.int .u8 0)], .agg [.lit (.int .u8 0), .lit (.int .u8 0)], .agg [.lit (.int .u8 0), .lit (.int .u8 0)], .agg [.lit (.int .u8 0), .lit (.int .u8 0)], .agg [.lit (.int .u8 0), .lit (.int .u8 0)], .agg [.lit (.int .u8 0), .lit (.int .u8 0)], .agg [.lit (.int .u8 0), .lit (.int .u8 0)], .agg [.lit (.int .u8 0), .lit (.int .u8 0)]]
/-- One of Go's own tables, pinned by name: the form's constant. -/
def laid_unicode_utf8_first : DataW Unit := Go.Pinned.utf8First

/-- 'n011_65.FnDecodeDataBase64RoundTrip': WHATEVER THE INPUT: true; the input reads as it did. -/
def fnDecodeDataBase64RoundTripSpec : ChangeSpec := { name := "fnDecodeDataBase64RoundTrip", fn := fun _ => fun
  | [d1, d2] => { results := [.lit (.bool true)], args := [d1, d2] }
  | _ => none }
def fnDecodeDataBase64RoundTripRow : OpenClaim := { program := "ytfimnjdfchdldaafmt", sum := "fcac8b20ea6259b029d07a7a9d81cd11f9d031128a9b8463883caa62f20cbb0d", func := "github.com/evanw/esbuild/n011_65.FnDecodeDataBase64RoundTrip", spec := "fnDecodeDataBase64RoundTrip", stops := ["fmt.Sprintf", "fmt.errorf"], inPlace := ["internal/bytealg.IndexByteString", "fmt.errorf", "internal/abi.NoEscape", "internal/bytealg.MakeNoZero"], unfollowed := true, recurses := true, named := ["net/url.table"], apart := false, laid := [("net/url.table", laid_net_url_table)] }
/-- NO THEOREM (fmt's text is open here; it may be false): for the released tool's asking of the row's closed facts alone. THE STATEMENT IS 'FnDecodeDataBase64RoundTripToldSaid' (YtfimnjdfchdldaaFmtCards.lean). -/
def FnDecodeDataBase64RoundTripFormAsk : Prop := fnDecodeDataBase64RoundTripRow.holds Tryf.pinned (OpenSpec.ofChange fnDecodeDataBase64RoundTripSpec)

/-- ITS FALSE NEIGHBOUR: 'it returns false'. Refute it at one input. -/
def fnDecodeDataBase64RoundTripWrong : ChangeSpec := { name := "fnDecodeDataBase64RoundTrip", fn := fun _ => fun
  | [d1, d2] => { results := [.lit (.bool false)], args := [d1, d2] }
  | _ => none }
def FnDecodeDataBase64RoundTripWrongFormAsk : Prop := fnDecodeDataBase64RoundTripRow.holds Tryf.pinned (OpenSpec.ofChange fnDecodeDataBase64RoundTripWrong)

/-- 'n011_81.FnShortestDataURLIsShorterOfTwoForms': WHATEVER THE INPUT: true; the input reads as it did. -/
def fnShortestDataURLIsShorterOfTwoFormsSpec : ChangeSpec := { name := "fnShortestDataURLIsShorterOfTwoForms", fn := fun _ => fun
  | [d1, d2] => { results := [.lit (.bool true)], args := [d1, d2] }
  | _ => none }
def fnShortestDataURLIsShorterOfTwoFormsRow : OpenClaim := { program := "ytfimnjdfchdldaafmt", sum := "fcac8b20ea6259b029d07a7a9d81cd11f9d031128a9b8463883caa62f20cbb0d", func := "github.com/evanw/esbuild/n011_81.FnShortestDataURLIsShorterOfTwoForms", spec := "fnShortestDataURLIsShorterOfTwoForms", stops := ["fmt.Sprintf", "fmt.errorf"], inPlace := ["fmt.Sprintf", "internal/abi.NoEscape"], named := ["unicode/utf8.first", "unicode/utf8.acceptRanges"], apart := false, laid := [("unicode/utf8.acceptRanges", laid_unicode_utf8_acceptRanges), ("unicode/utf8.first", laid_unicode_utf8_first)] }
/-- NO THEOREM (fmt's text is open here; it may be false): for the released tool's asking of the row's closed facts alone. THE STATEMENT IS 'FnShortestDataURLIsShorterOfTwoFormsToldSaid' (YtfimnjdfchdldaaFmtCards.lean). -/
def FnShortestDataURLIsShorterOfTwoFormsFormAsk : Prop := fnShortestDataURLIsShorterOfTwoFormsRow.holds Tryf.pinned (OpenSpec.ofChange fnShortestDataURLIsShorterOfTwoFormsSpec)

/-- ITS FALSE NEIGHBOUR: 'it returns false'. Refute it at one input. -/
def fnShortestDataURLIsShorterOfTwoFormsWrong : ChangeSpec := { name := "fnShortestDataURLIsShorterOfTwoForms", fn := fun _ => fun
  | [d1, d2] => { results := [.lit (.bool false)], args := [d1, d2] }
  | _ => none }
def FnShortestDataURLIsShorterOfTwoFormsWrongFormAsk : Prop := fnShortestDataURLIsShorterOfTwoFormsRow.holds Tryf.pinned (OpenSpec.ofChange fnShortestDataURLIsShorterOfTwoFormsWrong)

/-- 'n011_65.FnDecodeDataPercentSpec': WHATEVER THE INPUT: true; the input reads as it did. -/
def fnDecodeDataPercentSpecSpec : ChangeSpec := { name := "fnDecodeDataPercentSpec", fn := fun _ => fun
  | [d1, d2] => { results := [.lit (.bool true)], args := [d1, d2] }
  | _ => none }
def fnDecodeDataPercentSpecRow : OpenClaim := { program := "ytfimnjdfchdldaafmt", sum := "fcac8b20ea6259b029d07a7a9d81cd11f9d031128a9b8463883caa62f20cbb0d", func := "github.com/evanw/esbuild/n011_65.FnDecodeDataPercentSpec", spec := "fnDecodeDataPercentSpec", stops := ["fmt.Sprintf", "fmt.errorf"], inPlace := ["internal/bytealg.IndexByteString", "fmt.errorf", "internal/abi.NoEscape", "internal/bytealg.MakeNoZero"], unfollowed := true, recurses := true, named := ["net/url.table"], apart := false, laid := [("net/url.table", laid_net_url_table)] }
/-- NO THEOREM (fmt's text is open here; it may be false): for the released tool's asking of the row's closed facts alone. THE STATEMENT IS 'FnDecodeDataPercentSpecToldSaid' (YtfimnjdfchdldaaFmtCards.lean). -/
def FnDecodeDataPercentSpecFormAsk : Prop := fnDecodeDataPercentSpecRow.holds Tryf.pinned (OpenSpec.ofChange fnDecodeDataPercentSpecSpec)

/-- ITS FALSE NEIGHBOUR: 'it returns false'. Refute it at one input. -/
def fnDecodeDataPercentSpecWrong : ChangeSpec := { name := "fnDecodeDataPercentSpec", fn := fun _ => fun
  | [d1, d2] => { results := [.lit (.bool false)], args := [d1, d2] }
  | _ => none }
def FnDecodeDataPercentSpecWrongFormAsk : Prop := fnDecodeDataPercentSpecRow.holds Tryf.pinned (OpenSpec.ofChange fnDecodeDataPercentSpecWrong)

/-- 'n011_81.FnShortestDataURLDecodesBackAndIsNoLonger': WHATEVER THE INPUT: true; the input reads as it did. -/
def fnShortestDataURLDecodesBackAndIsNoLongerSpec : ChangeSpec := { name := "fnShortestDataURLDecodesBackAndIsNoLonger", fn := fun _ => fun
  | [d1, d2] => { results := [.lit (.bool true)], args := [d1, d2] }
  | _ => none }
def fnShortestDataURLDecodesBackAndIsNoLongerRow : OpenClaim := { program := "ytfimnjdfchdldaafmt", sum := "fcac8b20ea6259b029d07a7a9d81cd11f9d031128a9b8463883caa62f20cbb0d", func := "github.com/evanw/esbuild/n011_81.FnShortestDataURLDecodesBackAndIsNoLonger", spec := "fnShortestDataURLDecodesBackAndIsNoLonger", stops := ["fmt.Sprintf", "fmt.errorf"], inPlace := ["fmt.Sprintf", "internal/abi.NoEscape"], named := ["unicode/utf8.first", "unicode/utf8.acceptRanges"], apart := false, laid := [("unicode/utf8.acceptRanges", laid_unicode_utf8_acceptRanges), ("unicode/utf8.first", laid_unicode_utf8_first)] }
/-- NO THEOREM (fmt's text is open here; it may be false): for the released tool's asking of the row's closed facts alone. THE STATEMENT IS 'FnShortestDataURLDecodesBackAndIsNoLongerToldSaid' (YtfimnjdfchdldaaFmtCards.lean). -/
def FnShortestDataURLDecodesBackAndIsNoLongerFormAsk : Prop := fnShortestDataURLDecodesBackAndIsNoLongerRow.holds Tryf.pinned (OpenSpec.ofChange fnShortestDataURLDecodesBackAndIsNoLongerSpec)

/-- ITS FALSE NEIGHBOUR: 'it returns false'. Refute it at one input. -/
def fnShortestDataURLDecodesBackAndIsNoLongerWrong : ChangeSpec := { name := "fnShortestDataURLDecodesBackAndIsNoLonger", fn := fun _ => fun
  | [d1, d2] => { results := [.lit (.bool false)], args := [d1, d2] }
  | _ => none }
def FnShortestDataURLDecodesBackAndIsNoLongerWrongFormAsk : Prop := fnShortestDataURLDecodesBackAndIsNoLongerRow.holds Tryf.pinned (OpenSpec.ofChange fnShortestDataURLDecodesBackAndIsNoLongerWrong)

end Rows
end Go.Proofs.YtfimnjdfchdldaaFmt

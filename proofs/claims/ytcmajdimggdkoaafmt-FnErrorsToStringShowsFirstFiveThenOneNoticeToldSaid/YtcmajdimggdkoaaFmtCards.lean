/-
  DERIVED. GIVEN WITH THE SEED: THE CARDS: each row of YtcmajdimggdkoaaFmtRows.lean that lists a variable, with what it lists TIED to the program's text (the seventh form; the later family's looks); each row that meets fmt, with fmt's text TOLD by the authors' own Lean function (tested against real Go, not proved from fmt's source: count such statements apart). THE CARD IS WHAT COUNTS. Prove the row's statement (the work); the ties are given (YtcmajdimggdkoaaFmtTie.lean); close each card by the builder's one call (the guide's Derived/Test/ToyasCard.lean, 'card_holds'). Laid BY PROGRAM, IN A SANDBOX (cutbox-door.mjs). By AI agents, Wed Nov 11 2026. No macro, syntax, notation, axiom, sorry.
-/
import Derived.Test.YtcmajdimggdkoaaFmtRows
import GoSem.ClaimSeven
namespace Go.Proofs.YtcmajdimggdkoaaFmt
namespace Rows

/-- THE TOLD AND TIED CARD OF 'n011_24.FnErrorsToStringBlockCarriesText'. -/
def fnErrorsToStringBlockCarriesTextCard : Claim7 := { stood := { row := fnErrorsToStringBlockCarriesTextRow, standIns := [], harness := (true, "477030552353f48100947d4530633c443e21227782170e0b8c3ec9e4c108d3dc"), looks := false }, told := true, laidByText := true, laidKinds := [.data, .data, .pinned], laidTests := true, laidLooks := .later, goes := false }
def FnErrorsToStringBlockCarriesTextToldSaid : Prop := Claim7.holds Tryf.pinned (.plain (OpenSpec.ofChange fnErrorsToStringBlockCarriesTextSpec)) fnErrorsToStringBlockCarriesTextCard
/-- ITS FALSE NEIGHBOUR. Refute it at one input. -/
def FnErrorsToStringBlockCarriesTextToldWrongFalsely : Prop := Claim7.holds Tryf.pinned (.plain (OpenSpec.ofChange fnErrorsToStringBlockCarriesTextWrong)) fnErrorsToStringBlockCarriesTextCard

/-- THE TOLD AND TIED CARD OF 'n011_216.FnFormatMessagesSingleHeader'. -/
def fnFormatMessagesSingleHeaderCard : Claim7 := { stood := { row := fnFormatMessagesSingleHeaderRow, standIns := [], harness := (true, "477030552353f48100947d4530633c443e21227782170e0b8c3ec9e4c108d3dc"), looks := false }, told := true, laidByText := true, laidKinds := [.data, .data, .pinned], laidTests := true, laidLooks := .later, goes := false }
def FnFormatMessagesSingleHeaderToldSaid : Prop := Claim7.holds Tryf.pinned (.plain (OpenSpec.ofChange fnFormatMessagesSingleHeaderSpec)) fnFormatMessagesSingleHeaderCard
/-- ITS FALSE NEIGHBOUR. Refute it at one input. -/
def FnFormatMessagesSingleHeaderToldWrongFalsely : Prop := Claim7.holds Tryf.pinned (.plain (OpenSpec.ofChange fnFormatMessagesSingleHeaderWrong)) fnFormatMessagesSingleHeaderCard

/-- THE TOLD AND TIED CARD OF 'n011_216.FnFormatMessagesElementwise'. -/
def fnFormatMessagesElementwiseCard : Claim7 := { stood := { row := fnFormatMessagesElementwiseRow, standIns := [], harness := (true, "477030552353f48100947d4530633c443e21227782170e0b8c3ec9e4c108d3dc"), looks := false }, told := true, laidByText := true, laidKinds := [.data, .data, .pinned], laidTests := true, laidLooks := .later, goes := false }
def FnFormatMessagesElementwiseToldSaid : Prop := Claim7.holds Tryf.pinned (.plain (OpenSpec.ofChange fnFormatMessagesElementwiseSpec)) fnFormatMessagesElementwiseCard
/-- ITS FALSE NEIGHBOUR. Refute it at one input. -/
def FnFormatMessagesElementwiseToldWrongFalsely : Prop := Claim7.holds Tryf.pinned (.plain (OpenSpec.ofChange fnFormatMessagesElementwiseWrong)) fnFormatMessagesElementwiseCard

/-- THE TOLD AND TIED CARD OF 'n011_24.FnErrorsToStringShowsFirstFiveThenOneNotice'. -/
def fnErrorsToStringShowsFirstFiveThenOneNoticeCard : Claim7 := { stood := { row := fnErrorsToStringShowsFirstFiveThenOneNoticeRow, standIns := [], harness := (true, "477030552353f48100947d4530633c443e21227782170e0b8c3ec9e4c108d3dc"), looks := false }, told := true, laidByText := true, laidKinds := [.data, .data, .pinned], laidTests := true, laidLooks := .later, goes := false }
def FnErrorsToStringShowsFirstFiveThenOneNoticeToldSaid : Prop := Claim7.holds Tryf.pinned (.plain (OpenSpec.ofChange fnErrorsToStringShowsFirstFiveThenOneNoticeSpec)) fnErrorsToStringShowsFirstFiveThenOneNoticeCard
/-- ITS FALSE NEIGHBOUR. Refute it at one input. -/
def FnErrorsToStringShowsFirstFiveThenOneNoticeToldWrongFalsely : Prop := Claim7.holds Tryf.pinned (.plain (OpenSpec.ofChange fnErrorsToStringShowsFirstFiveThenOneNoticeWrong)) fnErrorsToStringShowsFirstFiveThenOneNoticeCard
end Rows
end Go.Proofs.YtcmajdimggdkoaaFmt

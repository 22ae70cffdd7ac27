/-
  DERIVED. GIVEN WITH THE SEED: THE CARDS: each row of YtfimnjdfchdldaaFmtRows.lean that lists a variable, with what it lists TIED to the program's text (the seventh form; the later family's looks); each row that meets fmt, with fmt's text TOLD by the authors' own Lean function (tested against real Go, not proved from fmt's source: count such statements apart). THE CARD IS WHAT COUNTS. Prove the row's statement (the work); the ties are given (YtfimnjdfchdldaaFmtTie.lean); close each card by the builder's one call (the guide's Derived/Test/ToyasCard.lean, 'card_holds'). Laid BY PROGRAM, IN A SANDBOX (cutbox-door.mjs). By AI agents, Wed Nov 11 2026. No macro, syntax, notation, axiom, sorry.
-/
import Derived.Test.YtfimnjdfchdldaaFmtRows
import GoSem.ClaimSeven
namespace Go.Proofs.YtfimnjdfchdldaaFmt
namespace Rows

/-- THE TOLD AND TIED CARD OF 'n011_65.FnDecodeDataBase64RoundTrip'. -/
def fnDecodeDataBase64RoundTripCard : Claim7 := { stood := { row := fnDecodeDataBase64RoundTripRow, standIns := [], harness := (true, "1aba6b8f711b6b7ee12ea91f1409d4f71eaa82bd7a1642e854ba495886ab3a1e"), looks := false }, told := true, laidByText := true, laidKinds := [.data], laidTests := true, laidLooks := .later, goes := false }
def FnDecodeDataBase64RoundTripToldSaid : Prop := Claim7.holds Tryf.pinned (.plain (OpenSpec.ofChange fnDecodeDataBase64RoundTripSpec)) fnDecodeDataBase64RoundTripCard
/-- ITS FALSE NEIGHBOUR. Refute it at one input. -/
def FnDecodeDataBase64RoundTripToldWrongFalsely : Prop := Claim7.holds Tryf.pinned (.plain (OpenSpec.ofChange fnDecodeDataBase64RoundTripWrong)) fnDecodeDataBase64RoundTripCard

/-- THE TOLD AND TIED CARD OF 'n011_81.FnShortestDataURLIsShorterOfTwoForms'. -/
def fnShortestDataURLIsShorterOfTwoFormsCard : Claim7 := { stood := { row := fnShortestDataURLIsShorterOfTwoFormsRow, standIns := [], harness := (true, "1aba6b8f711b6b7ee12ea91f1409d4f71eaa82bd7a1642e854ba495886ab3a1e"), looks := false }, told := true, laidByText := true, laidKinds := [.data, .pinned], laidTests := true, laidLooks := .later, goes := false }
def FnShortestDataURLIsShorterOfTwoFormsToldSaid : Prop := Claim7.holds Tryf.pinned (.plain (OpenSpec.ofChange fnShortestDataURLIsShorterOfTwoFormsSpec)) fnShortestDataURLIsShorterOfTwoFormsCard
/-- ITS FALSE NEIGHBOUR. Refute it at one input. -/
def FnShortestDataURLIsShorterOfTwoFormsToldWrongFalsely : Prop := Claim7.holds Tryf.pinned (.plain (OpenSpec.ofChange fnShortestDataURLIsShorterOfTwoFormsWrong)) fnShortestDataURLIsShorterOfTwoFormsCard

/-- THE TOLD AND TIED CARD OF 'n011_65.FnDecodeDataPercentSpec'. -/
def fnDecodeDataPercentSpecCard : Claim7 := { stood := { row := fnDecodeDataPercentSpecRow, standIns := [], harness := (true, "1aba6b8f711b6b7ee12ea91f1409d4f71eaa82bd7a1642e854ba495886ab3a1e"), looks := false }, told := true, laidByText := true, laidKinds := [.data], laidTests := true, laidLooks := .later, goes := false }
def FnDecodeDataPercentSpecToldSaid : Prop := Claim7.holds Tryf.pinned (.plain (OpenSpec.ofChange fnDecodeDataPercentSpecSpec)) fnDecodeDataPercentSpecCard
/-- ITS FALSE NEIGHBOUR. Refute it at one input. -/
def FnDecodeDataPercentSpecToldWrongFalsely : Prop := Claim7.holds Tryf.pinned (.plain (OpenSpec.ofChange fnDecodeDataPercentSpecWrong)) fnDecodeDataPercentSpecCard

/-- THE TOLD AND TIED CARD OF 'n011_81.FnShortestDataURLDecodesBackAndIsNoLonger'. -/
def fnShortestDataURLDecodesBackAndIsNoLongerCard : Claim7 := { stood := { row := fnShortestDataURLDecodesBackAndIsNoLongerRow, standIns := [], harness := (true, "1aba6b8f711b6b7ee12ea91f1409d4f71eaa82bd7a1642e854ba495886ab3a1e"), looks := false }, told := true, laidByText := true, laidKinds := [.data, .pinned], laidTests := true, laidLooks := .later, goes := false }
def FnShortestDataURLDecodesBackAndIsNoLongerToldSaid : Prop := Claim7.holds Tryf.pinned (.plain (OpenSpec.ofChange fnShortestDataURLDecodesBackAndIsNoLongerSpec)) fnShortestDataURLDecodesBackAndIsNoLongerCard
/-- ITS FALSE NEIGHBOUR. Refute it at one input. -/
def FnShortestDataURLDecodesBackAndIsNoLongerToldWrongFalsely : Prop := Claim7.holds Tryf.pinned (.plain (OpenSpec.ofChange fnShortestDataURLDecodesBackAndIsNoLongerWrong)) fnShortestDataURLDecodesBackAndIsNoLongerCard
end Rows
end Go.Proofs.YtfimnjdfchdldaaFmt

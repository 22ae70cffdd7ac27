/-
  No cell of these rows narrows 'for every input' (looked for: loops, veiled, ifaces, maps, wideKeys, modest, calm, conditions, laid).
  DERIVED. THE GIVEN ROWS OF THIS SEAT. 4 by the template 'for every input the law returns true; each argument reads behind the call as it read before'; 0 by the template 'total and deterministic' (their statements: YtpfnonkcjlfibaaTotals.lean).
  GIVEN WITH THE SEED: the statements are not yours to turn. If you find one false, say at which input.
  Laid BY PROGRAM, IN A SANDBOX (cutbox-rows.mjs): the forced cells as the released guide's own fill.sh prints them over the translation 1d278cf92ec66e23… (all of the seat's roots in one cut). By AI agents, Wed Nov 11 2026. No macro, syntax, notation, axiom, sorry.
-/
import Derived.Test.YtpfnonkcjlfibaaChecked
import GoSem.Claim
import GoSem.ClaimJoined
import GoSem.ClaimMapViews
import Derived.JoinedTies
import Derived.KernelRfl
namespace Go.Proofs.Ytpfnonkcjlfibaa
/- THE CELL 'sum', in the pinned program and in every row, IS THE sha256 OF THE DUMP (.gsa) THAT YtpfnonkcjlfibaaProg.lean LOADS. Nothing in Lean hashes anything: it is a label: what it is worth is what the hold of that sum in a sandbox is worth. -/
noncomputable def Try.pinned : Pinned := { name := "ytpfnonkcjlfibaa", sum := "1d278cf92ec66e232e3958c4444503cc4f5b94373fb64454ed8c60ed440a4fe9", checked := Try.checked }
namespace Rows
def none {H : Type} : Left H := { results := [], args := [] }

/-- 'n011_177.FnBreakJoinerIntoPiecesLosesNoText': WHATEVER THE INPUT: true; the input reads as it did. -/
def fnBreakJoinerIntoPiecesLosesNoTextSpec : ChangeSpec := { name := "fnBreakJoinerIntoPiecesLosesNoText", fn := fun _ => fun
  | [d1, d2, d3, d4] => { results := [.lit (.bool true)], args := [d1, d2, d3, d4] }
  | _ => none }
def fnBreakJoinerIntoPiecesLosesNoTextRow : OpenClaim := { program := "ytpfnonkcjlfibaa", sum := "1d278cf92ec66e232e3958c4444503cc4f5b94373fb64454ed8c60ed440a4fe9", func := "github.com/evanw/esbuild/n011_177.FnBreakJoinerIntoPiecesLosesNoText", spec := "fnBreakJoinerIntoPiecesLosesNoText", plainKeys := false, apart := false }
def FnBreakJoinerIntoPiecesLosesNoTextSaid : Prop := fnBreakJoinerIntoPiecesLosesNoTextRow.holds Try.pinned (OpenSpec.ofChange fnBreakJoinerIntoPiecesLosesNoTextSpec)

/-- ITS FALSE NEIGHBOUR: 'it returns false'. Refute it at one input. -/
def fnBreakJoinerIntoPiecesLosesNoTextWrong : ChangeSpec := { name := "fnBreakJoinerIntoPiecesLosesNoText", fn := fun _ => fun
  | [d1, d2, d3, d4] => { results := [.lit (.bool false)], args := [d1, d2, d3, d4] }
  | _ => none }
def FnBreakJoinerIntoPiecesLosesNoTextWrongFalsely : Prop := fnBreakJoinerIntoPiecesLosesNoTextRow.holds Try.pinned (OpenSpec.ofChange fnBreakJoinerIntoPiecesLosesNoTextWrong)

/-- 'n011_177.FnBreakJoinerIntoPiecesSplitsOnlyWhenAPartHoldsThePrefix': WHATEVER THE INPUT: true; the input reads as it did. -/
def fnBreakJoinerIntoPiecesSplitsOnlyWhenAPartHoldsThePrefixSpec : ChangeSpec := { name := "fnBreakJoinerIntoPiecesSplitsOnlyWhenAPartHoldsThePrefix", fn := fun _ => fun
  | [d1, d2, d3, d4] => { results := [.lit (.bool true)], args := [d1, d2, d3, d4] }
  | _ => none }
def fnBreakJoinerIntoPiecesSplitsOnlyWhenAPartHoldsThePrefixRow : OpenClaim := { program := "ytpfnonkcjlfibaa", sum := "1d278cf92ec66e232e3958c4444503cc4f5b94373fb64454ed8c60ed440a4fe9", func := "github.com/evanw/esbuild/n011_177.FnBreakJoinerIntoPiecesSplitsOnlyWhenAPartHoldsThePrefix", spec := "fnBreakJoinerIntoPiecesSplitsOnlyWhenAPartHoldsThePrefix", plainKeys := false, apart := false }
def FnBreakJoinerIntoPiecesSplitsOnlyWhenAPartHoldsThePrefixSaid : Prop := fnBreakJoinerIntoPiecesSplitsOnlyWhenAPartHoldsThePrefixRow.holds Try.pinned (OpenSpec.ofChange fnBreakJoinerIntoPiecesSplitsOnlyWhenAPartHoldsThePrefixSpec)

/-- ITS FALSE NEIGHBOUR: 'it returns false'. Refute it at one input. -/
def fnBreakJoinerIntoPiecesSplitsOnlyWhenAPartHoldsThePrefixWrong : ChangeSpec := { name := "fnBreakJoinerIntoPiecesSplitsOnlyWhenAPartHoldsThePrefix", fn := fun _ => fun
  | [d1, d2, d3, d4] => { results := [.lit (.bool false)], args := [d1, d2, d3, d4] }
  | _ => none }
def FnBreakJoinerIntoPiecesSplitsOnlyWhenAPartHoldsThePrefixWrongFalsely : Prop := fnBreakJoinerIntoPiecesSplitsOnlyWhenAPartHoldsThePrefixRow.holds Try.pinned (OpenSpec.ofChange fnBreakJoinerIntoPiecesSplitsOnlyWhenAPartHoldsThePrefixWrong)

/-- 'n011_177.FnBreakOutputIntoPiecesRestartsAfterTheFirstKey': WHATEVER THE INPUT: true; the input reads as it did. -/
def fnBreakOutputIntoPiecesRestartsAfterTheFirstKeySpec : ChangeSpec := { name := "fnBreakOutputIntoPiecesRestartsAfterTheFirstKey", fn := fun _ => fun
  | [d1, d2, d3, d4] => { results := [.lit (.bool true)], args := [d1, d2, d3, d4] }
  | _ => none }
def fnBreakOutputIntoPiecesRestartsAfterTheFirstKeyRow : OpenClaim := { program := "ytpfnonkcjlfibaa", sum := "1d278cf92ec66e232e3958c4444503cc4f5b94373fb64454ed8c60ed440a4fe9", func := "github.com/evanw/esbuild/n011_177.FnBreakOutputIntoPiecesRestartsAfterTheFirstKey", spec := "fnBreakOutputIntoPiecesRestartsAfterTheFirstKey", plainKeys := false, apart := false }
def FnBreakOutputIntoPiecesRestartsAfterTheFirstKeySaid : Prop := fnBreakOutputIntoPiecesRestartsAfterTheFirstKeyRow.holds Try.pinned (OpenSpec.ofChange fnBreakOutputIntoPiecesRestartsAfterTheFirstKeySpec)

/-- ITS FALSE NEIGHBOUR: 'it returns false'. Refute it at one input. -/
def fnBreakOutputIntoPiecesRestartsAfterTheFirstKeyWrong : ChangeSpec := { name := "fnBreakOutputIntoPiecesRestartsAfterTheFirstKey", fn := fun _ => fun
  | [d1, d2, d3, d4] => { results := [.lit (.bool false)], args := [d1, d2, d3, d4] }
  | _ => none }
def FnBreakOutputIntoPiecesRestartsAfterTheFirstKeyWrongFalsely : Prop := fnBreakOutputIntoPiecesRestartsAfterTheFirstKeyRow.holds Try.pinned (OpenSpec.ofChange fnBreakOutputIntoPiecesRestartsAfterTheFirstKeyWrong)

/-- 'n011_177.FnBreakOutputIntoPiecesIsTheUniqueKeyDecomposition': WHATEVER THE INPUT: true; the input reads as it did. -/
def fnBreakOutputIntoPiecesIsTheUniqueKeyDecompositionSpec : ChangeSpec := { name := "fnBreakOutputIntoPiecesIsTheUniqueKeyDecomposition", fn := fun _ => fun
  | [d1, d2, d3, d4] => { results := [.lit (.bool true)], args := [d1, d2, d3, d4] }
  | _ => none }
def fnBreakOutputIntoPiecesIsTheUniqueKeyDecompositionRow : OpenClaim := { program := "ytpfnonkcjlfibaa", sum := "1d278cf92ec66e232e3958c4444503cc4f5b94373fb64454ed8c60ed440a4fe9", func := "github.com/evanw/esbuild/n011_177.FnBreakOutputIntoPiecesIsTheUniqueKeyDecomposition", spec := "fnBreakOutputIntoPiecesIsTheUniqueKeyDecomposition", plainKeys := false, apart := false }
def FnBreakOutputIntoPiecesIsTheUniqueKeyDecompositionSaid : Prop := fnBreakOutputIntoPiecesIsTheUniqueKeyDecompositionRow.holds Try.pinned (OpenSpec.ofChange fnBreakOutputIntoPiecesIsTheUniqueKeyDecompositionSpec)

/-- ITS FALSE NEIGHBOUR: 'it returns false'. Refute it at one input. -/
def fnBreakOutputIntoPiecesIsTheUniqueKeyDecompositionWrong : ChangeSpec := { name := "fnBreakOutputIntoPiecesIsTheUniqueKeyDecomposition", fn := fun _ => fun
  | [d1, d2, d3, d4] => { results := [.lit (.bool false)], args := [d1, d2, d3, d4] }
  | _ => none }
def FnBreakOutputIntoPiecesIsTheUniqueKeyDecompositionWrongFalsely : Prop := fnBreakOutputIntoPiecesIsTheUniqueKeyDecompositionRow.holds Try.pinned (OpenSpec.ofChange fnBreakOutputIntoPiecesIsTheUniqueKeyDecompositionWrong)

/- THE SECOND FORM. 'bulk': how many values and letters a reading holds, each counted each time it is reached (what is shared counts as often as it is met; a slice's spare places count too). A statement '..UptoSaid' is the law's where the arguments, and the package variables that the reading takes, are together of bulk at most 1048576: NARROWER than '..Said'. Prove '..Said' where nothing that the law and all that it calls make is longer than what came in: it says more and counts as full. Else prove '..UptoSaid'. A law counts once. -/
mutual
def uptoBulk {H : Type} : DataW H → Nat
  | .lit (.string bytes) => bytes.length + 1
  | .lit _ => 1
  | .nil => 1
  | .ptr d => uptoBulk d + 1
  | .slice elems spare => uptoBulkAll elems + uptoBulkAll spare + 1
  | .agg parts => uptoBulkAll parts + 1
  | .iface _ d => uptoBulk d + 1
  | .map entries => uptoBulkEntries entries + 1
  | .held _ => 1
def uptoBulkAll {H : Type} : List (DataW H) → Nat
  | [] => 0
  | d :: r => uptoBulk d + uptoBulkAll r
def uptoBulkEntries {H : Type} : List (Lit × DataW H) → Nat
  | [] => 0
  | x :: r => uptoBulkEntry x + uptoBulkEntries r
def uptoBulkEntry {H : Type} : Lit × DataW H → Nat
  | (.string bytes, d) => bytes.length + uptoBulk d + 1
  | (_, d) => uptoBulk d + 1
 end
def uptoSmall : (H : Type) → List (DataW H) → Bool := fun _ ds => decide (uptoBulkAll ds ≤ 1048576)
def OpenSpec.upto (s : _root_.Go.ChangeSpec) : _root_.Go.OpenSpec := { _root_.Go.OpenSpec.ofChange s with cond := some uptoSmall }

/-- 'n011_177.FnBreakJoinerIntoPiecesLosesNoText', WHERE WHAT IT READS IS OF BULK AT MOST 1048576: true; the input reads as it did. -/
def fnBreakJoinerIntoPiecesLosesNoTextUptoRow : OpenClaim := { program := "ytpfnonkcjlfibaa", sum := "1d278cf92ec66e232e3958c4444503cc4f5b94373fb64454ed8c60ed440a4fe9", func := "github.com/evanw/esbuild/n011_177.FnBreakJoinerIntoPiecesLosesNoText", spec := "fnBreakJoinerIntoPiecesLosesNoText", plainKeys := false, apart := false, narrowed := true }
def FnBreakJoinerIntoPiecesLosesNoTextUptoSaid : Prop := fnBreakJoinerIntoPiecesLosesNoTextUptoRow.holds Try.pinned (OpenSpec.upto fnBreakJoinerIntoPiecesLosesNoTextSpec)

/-- 'n011_177.FnBreakJoinerIntoPiecesSplitsOnlyWhenAPartHoldsThePrefix', WHERE WHAT IT READS IS OF BULK AT MOST 1048576: true; the input reads as it did. -/
def fnBreakJoinerIntoPiecesSplitsOnlyWhenAPartHoldsThePrefixUptoRow : OpenClaim := { program := "ytpfnonkcjlfibaa", sum := "1d278cf92ec66e232e3958c4444503cc4f5b94373fb64454ed8c60ed440a4fe9", func := "github.com/evanw/esbuild/n011_177.FnBreakJoinerIntoPiecesSplitsOnlyWhenAPartHoldsThePrefix", spec := "fnBreakJoinerIntoPiecesSplitsOnlyWhenAPartHoldsThePrefix", plainKeys := false, apart := false, narrowed := true }
def FnBreakJoinerIntoPiecesSplitsOnlyWhenAPartHoldsThePrefixUptoSaid : Prop := fnBreakJoinerIntoPiecesSplitsOnlyWhenAPartHoldsThePrefixUptoRow.holds Try.pinned (OpenSpec.upto fnBreakJoinerIntoPiecesSplitsOnlyWhenAPartHoldsThePrefixSpec)

/-- 'n011_177.FnBreakOutputIntoPiecesRestartsAfterTheFirstKey', WHERE WHAT IT READS IS OF BULK AT MOST 1048576: true; the input reads as it did. -/
def fnBreakOutputIntoPiecesRestartsAfterTheFirstKeyUptoRow : OpenClaim := { program := "ytpfnonkcjlfibaa", sum := "1d278cf92ec66e232e3958c4444503cc4f5b94373fb64454ed8c60ed440a4fe9", func := "github.com/evanw/esbuild/n011_177.FnBreakOutputIntoPiecesRestartsAfterTheFirstKey", spec := "fnBreakOutputIntoPiecesRestartsAfterTheFirstKey", plainKeys := false, apart := false, narrowed := true }
def FnBreakOutputIntoPiecesRestartsAfterTheFirstKeyUptoSaid : Prop := fnBreakOutputIntoPiecesRestartsAfterTheFirstKeyUptoRow.holds Try.pinned (OpenSpec.upto fnBreakOutputIntoPiecesRestartsAfterTheFirstKeySpec)

/-- 'n011_177.FnBreakOutputIntoPiecesIsTheUniqueKeyDecomposition', WHERE WHAT IT READS IS OF BULK AT MOST 1048576: true; the input reads as it did. -/
def fnBreakOutputIntoPiecesIsTheUniqueKeyDecompositionUptoRow : OpenClaim := { program := "ytpfnonkcjlfibaa", sum := "1d278cf92ec66e232e3958c4444503cc4f5b94373fb64454ed8c60ed440a4fe9", func := "github.com/evanw/esbuild/n011_177.FnBreakOutputIntoPiecesIsTheUniqueKeyDecomposition", spec := "fnBreakOutputIntoPiecesIsTheUniqueKeyDecomposition", plainKeys := false, apart := false, narrowed := true }
def FnBreakOutputIntoPiecesIsTheUniqueKeyDecompositionUptoSaid : Prop := fnBreakOutputIntoPiecesIsTheUniqueKeyDecompositionUptoRow.holds Try.pinned (OpenSpec.upto fnBreakOutputIntoPiecesIsTheUniqueKeyDecompositionSpec)

end Rows
end Go.Proofs.Ytpfnonkcjlfibaa

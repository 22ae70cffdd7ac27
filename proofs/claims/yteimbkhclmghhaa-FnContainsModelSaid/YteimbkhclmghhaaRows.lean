/-
  No cell of these rows narrows 'for every input' (looked for: loops, veiled, ifaces, maps, wideKeys, modest, calm, conditions, laid).
  DERIVED. THE GIVEN ROWS OF THIS SEAT. 4 by the template 'for every input the law returns true; each argument reads behind the call as it read before'; 0 by the template 'total and deterministic' (their statements: YteimbkhclmghhaaTotals.lean).
  GIVEN WITH THE SEED: the statements are not yours to turn. If you find one false, say at which input.
  Laid BY PROGRAM, IN A SANDBOX (cutbox-rows.mjs): the forced cells as the released guide's own fill.sh prints them over the translation 48e76a04a1eeeac7… (all of the seat's roots in one cut). By AI agents, Wed Nov 11 2026. No macro, syntax, notation, axiom, sorry.
-/
import Derived.Test.YteimbkhclmghhaaChecked
import GoSem.Claim
import GoSem.ClaimJoined
import GoSem.ClaimMapViews
import Derived.JoinedTies
import Derived.KernelRfl
namespace Go.Proofs.Yteimbkhclmghhaa
/- THE CELL 'sum', in the pinned program and in every row, IS THE sha256 OF THE DUMP (.gsa) THAT YteimbkhclmghhaaProg.lean LOADS. Nothing in Lean hashes anything: it is a label: what it is worth is what the hold of that sum in a sandbox is worth. -/
noncomputable def Try.pinned : Pinned := { name := "yteimbkhclmghhaa", sum := "48e76a04a1eeeac7141d0fd2112173517aabbd640b8ee3b7c5ff608006c07e4e", checked := Try.checked }
namespace Rows
def none {H : Type} : Left H := { results := [], args := [] }

/-- 'n011_193.FnHashForFileNameMatchesBase32Model': WHATEVER THE INPUT: true; the input reads as it did. -/
def fnHashForFileNameMatchesBase32ModelSpec : ChangeSpec := { name := "fnHashForFileNameMatchesBase32Model", fn := fun _ => fun
  | [d] => { results := [.lit (.bool true)], args := [d] }
  | _ => none }
def fnHashForFileNameMatchesBase32ModelRow : OpenClaim := { program := "yteimbkhclmghhaa", sum := "48e76a04a1eeeac7141d0fd2112173517aabbd640b8ee3b7c5ff608006c07e4e", func := "github.com/evanw/esbuild/n011_193.FnHashForFileNameMatchesBase32Model", spec := "fnHashForFileNameMatchesBase32Model", apart := false }
def FnHashForFileNameMatchesBase32ModelSaid : Prop := fnHashForFileNameMatchesBase32ModelRow.holds Try.pinned (OpenSpec.ofChange fnHashForFileNameMatchesBase32ModelSpec)

/-- ITS FALSE NEIGHBOUR: 'it returns false'. Refute it at one input. -/
def fnHashForFileNameMatchesBase32ModelWrong : ChangeSpec := { name := "fnHashForFileNameMatchesBase32Model", fn := fun _ => fun
  | [d] => { results := [.lit (.bool false)], args := [d] }
  | _ => none }
def FnHashForFileNameMatchesBase32ModelWrongFalsely : Prop := fnHashForFileNameMatchesBase32ModelRow.holds Try.pinned (OpenSpec.ofChange fnHashForFileNameMatchesBase32ModelWrong)

/-- 'n011_34.FnContainsImpliesDoneContains': WHATEVER THE INPUT: true; the input reads as it did. -/
def fnContainsImpliesDoneContainsSpec : ChangeSpec := { name := "fnContainsImpliesDoneContains", fn := fun _ => fun
  | [d1, d2, d3] => { results := [.lit (.bool true)], args := [d1, d2, d3] }
  | _ => none }
def fnContainsImpliesDoneContainsRow : OpenClaim := { program := "yteimbkhclmghhaa", sum := "48e76a04a1eeeac7141d0fd2112173517aabbd640b8ee3b7c5ff608006c07e4e", func := "github.com/evanw/esbuild/n011_34.FnContainsImpliesDoneContains", spec := "fnContainsImpliesDoneContains", apart := false }
def FnContainsImpliesDoneContainsSaid : Prop := fnContainsImpliesDoneContainsRow.holds Try.pinned (OpenSpec.ofChange fnContainsImpliesDoneContainsSpec)

/-- ITS FALSE NEIGHBOUR: 'it returns false'. Refute it at one input. -/
def fnContainsImpliesDoneContainsWrong : ChangeSpec := { name := "fnContainsImpliesDoneContains", fn := fun _ => fun
  | [d1, d2, d3] => { results := [.lit (.bool false)], args := [d1, d2, d3] }
  | _ => none }
def FnContainsImpliesDoneContainsWrongFalsely : Prop := fnContainsImpliesDoneContainsRow.holds Try.pinned (OpenSpec.ofChange fnContainsImpliesDoneContainsWrong)

/-- 'n011_193.FnHashForFileNameSeesFirstFiveBytesExactly': WHATEVER THE INPUT: true; the input reads as it did. -/
def fnHashForFileNameSeesFirstFiveBytesExactlySpec : ChangeSpec := { name := "fnHashForFileNameSeesFirstFiveBytesExactly", fn := fun _ => fun
  | [d1, d2, d3] => { results := [.lit (.bool true)], args := [d1, d2, d3] }
  | _ => none }
def fnHashForFileNameSeesFirstFiveBytesExactlyRow : OpenClaim := { program := "yteimbkhclmghhaa", sum := "48e76a04a1eeeac7141d0fd2112173517aabbd640b8ee3b7c5ff608006c07e4e", func := "github.com/evanw/esbuild/n011_193.FnHashForFileNameSeesFirstFiveBytesExactly", spec := "fnHashForFileNameSeesFirstFiveBytesExactly", apart := false }
def FnHashForFileNameSeesFirstFiveBytesExactlySaid : Prop := fnHashForFileNameSeesFirstFiveBytesExactlyRow.holds Try.pinned (OpenSpec.ofChange fnHashForFileNameSeesFirstFiveBytesExactlySpec)

/-- ITS FALSE NEIGHBOUR: 'it returns false'. Refute it at one input. -/
def fnHashForFileNameSeesFirstFiveBytesExactlyWrong : ChangeSpec := { name := "fnHashForFileNameSeesFirstFiveBytesExactly", fn := fun _ => fun
  | [d1, d2, d3] => { results := [.lit (.bool false)], args := [d1, d2, d3] }
  | _ => none }
def FnHashForFileNameSeesFirstFiveBytesExactlyWrongFalsely : Prop := fnHashForFileNameSeesFirstFiveBytesExactlyRow.holds Try.pinned (OpenSpec.ofChange fnHashForFileNameSeesFirstFiveBytesExactlyWrong)

/-- 'n011_34.FnContainsModel': WHATEVER THE INPUT: true; the input reads as it did. -/
def fnContainsModelSpec : ChangeSpec := { name := "fnContainsModel", fn := fun _ => fun
  | [d1, d2, d3, d4] => { results := [.lit (.bool true)], args := [d1, d2, d3, d4] }
  | _ => none }
def fnContainsModelRow : OpenClaim := { program := "yteimbkhclmghhaa", sum := "48e76a04a1eeeac7141d0fd2112173517aabbd640b8ee3b7c5ff608006c07e4e", func := "github.com/evanw/esbuild/n011_34.FnContainsModel", spec := "fnContainsModel", apart := false }
def FnContainsModelSaid : Prop := fnContainsModelRow.holds Try.pinned (OpenSpec.ofChange fnContainsModelSpec)

/-- ITS FALSE NEIGHBOUR: 'it returns false'. Refute it at one input. -/
def fnContainsModelWrong : ChangeSpec := { name := "fnContainsModel", fn := fun _ => fun
  | [d1, d2, d3, d4] => { results := [.lit (.bool false)], args := [d1, d2, d3, d4] }
  | _ => none }
def FnContainsModelWrongFalsely : Prop := fnContainsModelRow.holds Try.pinned (OpenSpec.ofChange fnContainsModelWrong)

/- THE SECOND FORM. 'bulk': how many values and letters a reading holds, each counted each time it is reached (what is shared counts as often as it is met; a slice's spare places count too). A statement '..UptoSaid' is the law's where the arguments, and the package variables that the reading takes, are together of bulk at most 1048576: NARROWER than '..Said'. Prove '..Said' where nothing that the law and all that it calls make is longer than what came in: it says more and counts as full. Else prove '..UptoSaid'. A law counts once. -/
mutual
def uptoBulk {H : Type} : DataW H → Nat
  | .lit (.string bytes) => bytes.length + 1
  | .lit _ => 1
  | .nil => 1
  | .ptr d => uptoBulk d + 1
  | .slice elems spare => uptoBulkAll elems + uptoBulkAll spare + 1
  | .agg parts => uptoBulkAll parts + 1
  | .iface _ d => uptoBulk d + 1
  | .map entries => uptoBulkEntries entries + 1
  | .held _ => 1
def uptoBulkAll {H : Type} : List (DataW H) → Nat
  | [] => 0
  | d :: r => uptoBulk d + uptoBulkAll r
def uptoBulkEntries {H : Type} : List (Lit × DataW H) → Nat
  | [] => 0
  | x :: r => uptoBulkEntry x + uptoBulkEntries r
def uptoBulkEntry {H : Type} : Lit × DataW H → Nat
  | (.string bytes, d) => bytes.length + uptoBulk d + 1
  | (_, d) => uptoBulk d + 1
 end
def uptoSmall : (H : Type) → List (DataW H) → Bool := fun _ ds => decide (uptoBulkAll ds ≤ 1048576)
def OpenSpec.upto (s : _root_.Go.ChangeSpec) : _root_.Go.OpenSpec := { _root_.Go.OpenSpec.ofChange s with cond := some uptoSmall }

/-- 'n011_193.FnHashForFileNameMatchesBase32Model', WHERE WHAT IT READS IS OF BULK AT MOST 1048576: true; the input reads as it did. -/
def fnHashForFileNameMatchesBase32ModelUptoRow : OpenClaim := { program := "yteimbkhclmghhaa", sum := "48e76a04a1eeeac7141d0fd2112173517aabbd640b8ee3b7c5ff608006c07e4e", func := "github.com/evanw/esbuild/n011_193.FnHashForFileNameMatchesBase32Model", spec := "fnHashForFileNameMatchesBase32Model", apart := false, narrowed := true }
def FnHashForFileNameMatchesBase32ModelUptoSaid : Prop := fnHashForFileNameMatchesBase32ModelUptoRow.holds Try.pinned (OpenSpec.upto fnHashForFileNameMatchesBase32ModelSpec)

/-- 'n011_34.FnContainsImpliesDoneContains', WHERE WHAT IT READS IS OF BULK AT MOST 1048576: true; the input reads as it did. -/
def fnContainsImpliesDoneContainsUptoRow : OpenClaim := { program := "yteimbkhclmghhaa", sum := "48e76a04a1eeeac7141d0fd2112173517aabbd640b8ee3b7c5ff608006c07e4e", func := "github.com/evanw/esbuild/n011_34.FnContainsImpliesDoneContains", spec := "fnContainsImpliesDoneContains", apart := false, narrowed := true }
def FnContainsImpliesDoneContainsUptoSaid : Prop := fnContainsImpliesDoneContainsUptoRow.holds Try.pinned (OpenSpec.upto fnContainsImpliesDoneContainsSpec)

/-- 'n011_193.FnHashForFileNameSeesFirstFiveBytesExactly', WHERE WHAT IT READS IS OF BULK AT MOST 1048576: true; the input reads as it did. -/
def fnHashForFileNameSeesFirstFiveBytesExactlyUptoRow : OpenClaim := { program := "yteimbkhclmghhaa", sum := "48e76a04a1eeeac7141d0fd2112173517aabbd640b8ee3b7c5ff608006c07e4e", func := "github.com/evanw/esbuild/n011_193.FnHashForFileNameSeesFirstFiveBytesExactly", spec := "fnHashForFileNameSeesFirstFiveBytesExactly", apart := false, narrowed := true }
def FnHashForFileNameSeesFirstFiveBytesExactlyUptoSaid : Prop := fnHashForFileNameSeesFirstFiveBytesExactlyUptoRow.holds Try.pinned (OpenSpec.upto fnHashForFileNameSeesFirstFiveBytesExactlySpec)

/-- 'n011_34.FnContainsModel', WHERE WHAT IT READS IS OF BULK AT MOST 1048576: true; the input reads as it did. -/
def fnContainsModelUptoRow : OpenClaim := { program := "yteimbkhclmghhaa", sum := "48e76a04a1eeeac7141d0fd2112173517aabbd640b8ee3b7c5ff608006c07e4e", func := "github.com/evanw/esbuild/n011_34.FnContainsModel", spec := "fnContainsModel", apart := false, narrowed := true }
def FnContainsModelUptoSaid : Prop := fnContainsModelUptoRow.holds Try.pinned (OpenSpec.upto fnContainsModelSpec)

end Rows
end Go.Proofs.Yteimbkhclmghhaa

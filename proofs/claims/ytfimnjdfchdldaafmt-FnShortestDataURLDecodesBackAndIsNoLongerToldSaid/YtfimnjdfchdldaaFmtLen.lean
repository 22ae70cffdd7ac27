/-
  The walks of decodedLen and of DecodedLen. Conditions: the standard encoding.
-/
import Derived.Test.YtfimnjdfchdldaaFmtQub
namespace Go.Proofs.YtfimnjdfchdldaaFmt
open Go.RowKit

set_option maxHeartbeats 400000 in
theorem decodedLen_any (n : Nat) (w : World) (hn : n ≤ 16777216) :
    Calls Tryf.prog 60 #[.int .i64 n, .int .i32 61] w fun e w' => e = .returned (.int .i64 ((n / 4 * 3 : Nat) : Int)) ∧ w = w' := by
  go_enter Tryf.func60, Tryf.ntmps60
  go_wp2
  go_ret
  exact ⟨by go_num, rfl⟩

set_option maxHeartbeats 400000 in
theorem decodedLenOf_any (E n : Nat) (w : World) (hE : StdAt w E) (hn : n ≤ 16777216) :
    Calls Tryf.prog 50 #[.pointer (some ⟨E, 0, none⟩), .int .i64 n] w fun e w' => e = .returned (.int .i64 ((n / 4 * 3 : Nat) : Int)) ∧ w = w' := by
  have hp := std_padChar hE
  go_enter Tryf.func50, Tryf.ntmps50
  go_wp2_with fail
  refine (decodedLen_any n w hn).mono ?_
  rintro e w' ⟨rfl, rfl⟩
  go_wp2
  go_ret
  exact ⟨rfl, rfl⟩
end Go.Proofs.YtfimnjdfchdldaaFmt

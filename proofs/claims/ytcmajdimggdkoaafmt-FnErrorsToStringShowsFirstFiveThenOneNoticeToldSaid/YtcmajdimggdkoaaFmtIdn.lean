/-
  The walks of the message's kind and number: MsgKind.String, Icon, MsgIDToString(0). Conditions: the kind is Error or Warning.
-/
import Derived.Test.YtcmajdimggdkoaaFmtHelp
namespace Go.Proofs.YtcmajdimggdkoaaFmt
open Go.RowKit

set_option maxHeartbeats 1600000 in
set_option maxRecDepth 100000 in
theorem id37_zero (w : World) : Calls Tryf.prog 37 #[.int .u8 0] w fun e w' => e = .returned (.agg #[.string ⟨#[]⟩, .int .u8 0]) ∧ Below w.heap.size w w' := by
  go_enter Tryf.func37, Tryf.ntmps37
  go_wp2
  exact bodyPost_ret (v := .agg #[.string ⟨#[]⟩, .int .u8 0]) (by simp [results, Tryf.results37, go_sem]) rfl ⟨rfl, (Below.refl _ _).alloc (Nat.le_refl _) _⟩
theorem win58 (w : World) : Calls Tryf.prog 58 #[] w fun e w' => e = .returned (.bool false) ∧ w = w' := by
  go_enter Tryf.func58, Tryf.ntmps58
  go_wp2
  go_ret
  exact ⟨rfl, rfl⟩
theorem kind42_err (w : World) : Calls Tryf.prog 42 #[.int .u8 0] w fun e w' => e = .returned (.string ⟨#[69, 82, 82, 79, 82]⟩) ∧ w = w' := by
  go_enter Tryf.func42, Tryf.ntmps42
  go_wp2
  go_ret
  exact ⟨rfl, rfl⟩
theorem kind42_warn (w : World) : Calls Tryf.prog 42 #[.int .u8 1] w fun e w' => e = .returned (.string ⟨#[87, 65, 82, 78, 73, 78, 71]⟩) ∧ w = w' := by
  go_enter Tryf.func42, Tryf.ntmps42
  go_wp2
  go_ret
  exact ⟨rfl, rfl⟩
set_option maxRecDepth 100000 in
theorem id48_zero (w : World) : Calls Tryf.prog 48 #[.int .u8 0] w fun e w' => e = .returned (.string ⟨#[]⟩) ∧ Below w.heap.size w w' := by
  go_enter Tryf.func48, Tryf.ntmps48
  go_wp2_with fail
  refine (id37_zero w).mono ?_
  rintro e w' ⟨rfl, hb⟩
  have hfd : ∀ w : World, (Instr.field 91 (.agg #[.string ⟨#[]⟩, .int .u8 0]) 0).run Tryf.prog w = .ok (.string ⟨#[]⟩) w := fun _ => by kernel_rfl
  go_wp2
  go_ret
  exact ⟨rfl, hb⟩
theorem icon49_err (w : World) : Calls Tryf.prog 49 #[.int .u8 0] w fun e w' => e = .returned (.string ⟨#[226, 156, 152]⟩) ∧ w = w' := by
  go_enter Tryf.func49, Tryf.ntmps49
  go_wp2_with fail
  refine (win58 w).mono ?_
  rintro e w' ⟨rfl, rfl⟩
  go_wp2
  go_ret
  exact ⟨rfl, rfl⟩
theorem icon49_warn (w : World) : Calls Tryf.prog 49 #[.int .u8 1] w fun e w' => e = .returned (.string ⟨#[226, 150, 178]⟩) ∧ w = w' := by
  go_enter Tryf.func49, Tryf.ntmps49
  go_wp2_with fail
  refine (win58 w).mono ?_
  rintro e w' ⟨rfl, rfl⟩
  go_wp2
  go_ret
  exact ⟨rfl, rfl⟩
theorem loc30_nil (w : World) : Calls Tryf.prog 30 #[.pointer none] w fun e w' => e = .returned (.pointer none) ∧ w = w' := by
  go_enter Tryf.func30, Tryf.ntmps30
  go_wp2
  go_ret
  exact ⟨rfl, rfl⟩
theorem style29_zero (w : World) : Calls Tryf.prog 29 #[.int .u8 0] w fun e w' => e = .returned (.int .i8 0) ∧ w = w' := by
  go_enter Tryf.func29, Tryf.ntmps29
  go_wp2
  go_ret
  exact ⟨rfl, rfl⟩
end Go.Proofs.YtcmajdimggdkoaaFmt

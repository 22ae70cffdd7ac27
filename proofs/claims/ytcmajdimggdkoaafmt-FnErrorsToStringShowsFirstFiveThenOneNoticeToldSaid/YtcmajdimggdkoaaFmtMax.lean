/-
  The walk of StringToMaximumMsgID at the empty text. Conditions: none.
-/
import Derived.Test.YtcmajdimggdkoaaFmtHelp
import Derived.Laws.IdiomRangeMap
import Derived.LoopN
namespace Go.Proofs.YtcmajdimggdkoaaFmt
open Go.RowKit

set_option maxHeartbeats 1600000 in
set_option maxRecDepth 100000 in
theorem ids35_empty (w : World) (b : Nat) : Calls Tryf.prog 35 #[.string ⟨#[]⟩, .int .i8 3, .map (some b)] w fun e w' => e = .returned (.tuple #[]) ∧ w = w' := by
  go_enter Tryf.func35, Tryf.ntmps35
  go_wp2
  go_end0
  exact ⟨rfl, rfl⟩

set_option maxHeartbeats 1600000 in
set_option maxRecDepth 100000 in
theorem max31_empty (w : World) : Calls Tryf.prog 31 #[.string ⟨#[]⟩] w fun e w' => e = .returned (.int .u8 0) ∧ Below w.heap.size w w' := by
  have hmm := @run_makeMap Tryf.prog
  go_enter Tryf.func31, Tryf.ntmps31
  go_wp2_with fail
  refine (ids35_empty _ _).mono ?_
  rintro e w' ⟨rfl, rfl⟩
  have hr := run_range_map (P := Tryf.prog) (w.alloc (.map #[] 0)) 49 5 46 w.heap.size #[] 0 Tryf.underlying49 (heap_alloc_new _ _)
  have hsz : (w.alloc (.map #[] 0)).heap.size = w.heap.size + 1 := by simp
  rw [hsz] at hr
  have hn := run_next_map (P := Tryf.prog) (w.alloc (.map #[] 0)) 0 w.heap.size 0 0 #[] #[] 0 (heap_alloc_new _ _) (by simp) (Nat.le_refl _)
  rw [hsz] at hn
  rcases hn with ⟨_, hrun⟩ | ⟨e, he, _⟩
  · have hnx : ∀ ty, (Instr.next (.pointer (some ⟨w.heap.size + 1, 0, none⟩)) false ty).run Tryf.prog ((w.alloc (.map #[] 0)).alloc (.mapIter (some w.heap.size) 0 #[] 0)) = _ := fun _ => hrun
    go_wp2_with fail
    refine wp_loop_rounds 1 ?_
    rw [rounds_succ]
    go_wp2
    go_ret
    exact ⟨rfl, ((Below.refl _ _).alloc (Nat.le_refl _) _).alloc (by omega) _⟩
  · simp [leftOf] at he
end Go.Proofs.YtcmajdimggdkoaaFmt

/-
  The walks of the readers over the joiner form, and of zzRender. Conditions: sizes.
-/
import Derived.Test.YtpfnonkcjlfibaaLJoin
import Derived.Test.YtpfnonkcjlfibaaLHelpD
namespace Go.Proofs.Ytpfnonkcjlfibaa
open Go.RowKit

set_option maxHeartbeats 400000 in
theorem isPiecesJ_any (sv tv : Value) (len lb : Int) (w : World) :
    Calls Try.prog 13 #[outJ sv tv len lb] w fun e w' => e = .returned (.bool false) ∧ Below w.heap.size w w' := by
  unfold outJ
  have heq : ∀ w : World, (binOp .neq 28 (.slice none 0 0) (.slice none 0 0)).run Try.prog w = .ok (.bool false) w := fun w => Go.run_neq_slice_nil_any w 28 146 _ _ _ _ _ Try.underlying28
  go_enter Try.func13, Try.ntmps13
  go_wp2
  go_ret
  exact ⟨rfl, (Below.refl _ _).alloc (Nat.le_refl _) _⟩

set_option maxHeartbeats 400000 in
theorem countJ_any (sv tv : Value) (len lb : Int) (w : World) :
    Calls Try.prog 14 #[outJ sv tv len lb] w fun e w' => e = .returned (.int .i64 0) ∧ Below w.heap.size w w' := by
  unfold outJ
  go_enter Try.func14, Try.ntmps14
  go_wp2
  go_ret
  exact ⟨rfl, (Below.refl _ _).alloc (Nat.le_refl _) _⟩

/-- a text is handed back -/
def TextIs (w : World) (C : List UInt8) (e : Ending) (w' : World) : Prop := ∃ A n c, e = .returned (.slice A n c) ∧ Rd w' w'.heap.size A n C ∧ n ≤ c ∧ Below w.heap.size w w'

theorem box_out (w : World) (sv tv : Value) (len : Nat) (lb : Int) : Blk (w.alloc (.cells #[.slice none 0 0, sv, tv, .int .u32 len, .int .u8 lb] 35)) w.heap.size 35 #[.slice none 0 0, sv, tv, .int .u32 len, .int .u8 lb] ∧
    Below w.heap.size w (w.alloc (.cells #[.slice none 0 0, sv, tv, .int .u32 len, .int .u8 lb] 35)) ∧ (w.alloc (.cells #[.slice none 0 0, sv, tv, .int .u32 len, .int .u8 lb] 35)).heap.size = w.heap.size + 1 :=
  ⟨Blk.new _ _ _, (Below.refl _ _).alloc (Nat.le_refl _) _, by simp⟩

set_option maxHeartbeats 400000 in
theorem joinerDone_any (sv tv : Value) (lb : Int) (TS : List BItem) (C : List UInt8) (w : World) {B0 : Nat} (hJ : JV w B0 sv tv [] TS) (ht : JM.Tile C (piecesT TS)) (hC : C.length ≤ 16777216) (hnT : TS.length ≤ 16777216) :
    Calls Try.prog 21 #[outJ sv tv C.length lb] w (TextIs w C) := by
  unfold outJ
  go_enter Try.func21, Try.ntmps21
  obtain ⟨hR, hb, hs⟩ := box_out w sv tv C.length lb
  go_upto_region 1 with (fail)
  generalize w.alloc (.cells #[.slice none 0 0, sv, tv, .int .u32 C.length, .int .u8 lb] 35) = w1 at *
  obtain ⟨⟨c0, c1, c2, c3, c4⟩, _⟩ := r_cells hR
  go_wp2_with fail
  refine (done_at w.heap.size 1 C w1 ⟨hR.lt, c1, c2, c3⟩ (hJ.below hb) ht (by omega) (by simp) (by omega)).mono ?_
  rintro e w4 ⟨A, n, c, rfl, hrt, hnc', hb4⟩
  go_wp2
  go_ret
  exact ⟨_, _, _, rfl, hrt.rd, hnc', hb.trans (hb4.mono hb.size)⟩

set_option maxHeartbeats 400000 in
theorem renderJ_any (sv tv : Value) (lb : Int) (TS : List BItem) (C : List UInt8) (v : Value) (w : World) {B0 : Nat} (hJ : JV w B0 sv tv [] TS) (ht : JM.Tile C (piecesT TS)) (hC : C.length ≤ 16777216) (hnT : TS.length ≤ 16777216) :
    Calls Try.prog 17 #[outJ sv tv C.length lb, v] w (TextIs w C) := by
  unfold outJ
  go_enter Try.func17, Try.ntmps17
  obtain ⟨hR, hb, hs⟩ := box_out w sv tv C.length lb
  go_upto_region 1 with (fail)
  generalize w.alloc (.cells #[.slice none 0 0, sv, tv, .int .u32 C.length, .int .u8 lb] 35) = w1 at *
  obtain ⟨⟨c0, c1, c2, c3, c4⟩, _⟩ := r_cells hR
  go_wp2_with fail
  refine (isPiecesJ_any sv tv C.length lb w1).mono ?_
  rintro e w2 ⟨rfl, hb2⟩
  clear c0 c1 c2 c3 c4
  obtain ⟨⟨c0, c1, c2, c3, c4⟩, _⟩ := r_cells (hR.below hb2 hR.lt)
  go_wp2_with fail
  refine (joinerDone_any sv tv lb TS C w2 ((hJ.below hb).below hb2) ht hC hnT).mono ?_
  rintro e w4 ⟨A, n, c, rfl, hrt, hnc', hb4⟩
  go_wp2
  go_ret
  exact ⟨_, _, _, rfl, hrt, hnc', (hb.trans (hb2.mono hb.size)).trans (hb4.mono (Nat.le_trans hb.size hb2.size))⟩
end Go.Proofs.Ytpfnonkcjlfibaa

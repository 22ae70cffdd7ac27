/-
  FnHashForFileNameMatchesBase32Model: for every input the law returns true and the argument reads as before. Conditions: none.
-/
import Derived.Test.YteimbkhclmghhaaHName
import Derived.WalkKit
import Derived.ProofKit
import Derived.OpenShut
import Derived.ShutString
import Derived.ChangeOld
import Derived.Below
namespace Go.Proofs.Yteimbkhclmghhaa.fnHashForFileNameMatchesBase32Model
open Go.ChangeShapes Go.WideShapes Go.ChangeAt Go.RowKit
open Go.ChangeMaps (open_string shut_string)
set_option linter.unusedVariables false

theorem own : ownKnob Try.prog.godebug = none := by kernel_rfl
theorem laidOut : laidOutB Try.prog = true := by kernel_rfl

set_option maxHeartbeats 400000 in
theorem walk (a0 : Option Addr) (len0 cap0 : Nat) (z0 : List Int) (w : World) (w0 : IsRow .u8 w a0 len0 cap0 z0) :
    Calls Try.prog 3 #[.slice a0 len0 cap0] w fun e w' => e = .returned (.bool true) ∧ Below w.heap.size w w' := by
  obtain ⟨bs, hr, hcap, hml⟩ := rd_of_row w0
  unfold maxLen at hml
  clear w0
  by_cases hn : len0 ≤ 1048576
  · by_cases h0 : 0 < len0
    · have hd : decide (len0 ≤ 1048576) = true := by simpa using hn
      have h0' : ((len0 : Int) == 0) = false := by simp; omega
      go_enter Try.func3, Try.ntmps3
      go_wp2_with (first | (go_at_call 7; refine (room_any _ _ _ _).mono ?_; rintro e w' ⟨rfl, rfl⟩) | (at_make; refine wpList_mk (c := len0) E22 rfl _ rfl w.heap.size len0 rfl rfl (by omega) (by decide) (Nat.le_refl _) ?_; intro w1 hown hg hsz))
      rw [made_bytes, ← fill_zero bs len0] at hown
      have hb1 : Below w.heap.size w w1 := (Below.refl _ _).grown hg (Nat.le_refl _) (by intro k hk; cases hk)
      clear hg
      go_loopw [4] (fun i wr => ∃ k : Nat, k ≤ len0 ∧ i = .int .i64 k ∧ wr.ownsRow w.heap.size 5 1 (.slice (some ⟨w.heap.size, 0, none⟩) len0 len0) len0 ((fill bs len0 k).map bv) ∧ Below w.heap.size w wr) (fun i _ => len0 - (intOf i).toNat)
      case atStart => exact ⟨0, by omega, rfl, hown, hb1⟩
      case round =>
        clear hown hb1
        obtain ⟨k, hk, rfl, hown, hb⟩ := hrel
        have hlen := hr.len
        have hr' := hr.below hb
        by_cases hkl : k < len0
        · obtain ⟨b, off, x, rfl, hbl, hx, hc⟩ := hr'.at hkl
          have hf := hown.frozenAt k
          have hu := fill_cell hown hlen hkl
          have R := hide (fill_store hown hlen hx)
          clear hx hown hlen
          go_wp2
          go_roundw
          case rel => exact ⟨k + 1, by omega, by go_num, R.out, hb.setCell (Nat.le_refl _) _⟩
          case measure => simp [intOf]; omega
        · obtain rfl : k = len0 := by omega
          rw [fill_all _ _ hlen] at hown
          have hrd := Rd.of_own hown
          clear hlen
          go_wp2_with fail
          refine (name_any _ _ _ _ _ hrd (Nat.le_refl _) (by omega) h0).mono ?_
          rintro e w2 ⟨rfl, hb2⟩
          go_wp2_with fail
          refine (head_any _ _ _ _ _ ((hrd.below hb2).more hb2.size) (by omega)).mono ?_
          rintro e w3 ⟨rfl, hb3⟩
          go_wp2
          go_ret
          exact ⟨by simp, (hb.trans (hb2.mono hb.size)).trans (hb3.mono (Nat.le_trans hb.size hb2.size))⟩
    · obtain rfl : len0 = 0 := by omega
      have hd : decide (0 ≤ 1048576) = true := rfl
      go_enter Try.func3, Try.ntmps3
      go_wp2_with (go_at_call 7; refine (room_any _ _ _ _).mono ?_; rintro e w' ⟨rfl, rfl⟩)
      go_ret
      exact ⟨rfl, Below.refl _ _⟩
  · have hd : decide (len0 ≤ 1048576) = false := by simpa using hn
    go_enter Try.func3, Try.ntmps3
    go_wp2_with (go_at_call 7; refine (room_any _ _ _ _).mono ?_; rintro e w' ⟨rfl, rfl⟩)
    go_ret
    exact ⟨rfl, Below.refl _ _⟩

/-! ### THE ROW's STEP: WRITTEN OUT: LEAVE IT -/
set_option maxRecDepth 100000 in
theorem lifted (os : Os) (started : os.Started) (H : Type) (enc : TypeId × Value → H) :
    ReturnsInHanded {} Try.checked os 3 .any (Rows.fnHashForFileNameMatchesBase32ModelSpec.pre6 enc Try.prog Try.f3 Rows.fnHashForFileNameMatchesBase32ModelRow.domain false) (Rows.fnHashForFileNameMatchesBase32ModelSpec.post enc Try.prog Try.f3 false true false false) := by
  refine returnsInHanded_of_change (C := Try.checked) own started (by kernel_rfl) Try.func3
    (ChangeSpec.witness6 (enc := enc) (C := Try.checked) false ⟨#[], #[.slice none 0 0], []⟩ 8 (by kernel_rfl) (by kernel_rfl) (by kernel_rfl) (by kernel_rfl)) ?_
  intro W base args ds gs before hval0 hW hcnd _
  have hval : ∀ (j : Nat) t v, Try.f3.params[j]? = some t → args[j]? = some v → Value.okWide Try.prog W .any base t v := hval0
  have hW' := hW
  obtain ⟨p, q, hA0, hV, rfl, hfz, hnd⟩ := hW
  have hA : DataW.TrodAll enc Try.prog W 0 (fun _ => true) true Try.f3.params.toList args.toList ds p := hA0
  rw [Try.params3] at hA hval
  obtain ⟨v0, vs0, d0, ds0, p0, q0, hargs, rfl, rfl, h0, r0⟩ := trodAll_cons hA
  obtain ⟨rfl, rfl, rfl⟩ := trodAll_nil r0
  obtain rfl : args = #[v0] := by cases args; simp_all
  obtain ⟨rfl, rfl⟩ := trodVars_none hV
  obtain ⟨a0, len0, cap0, rfl⟩ := okWide_slice Try.underlying22 (hval 0 22 v0 rfl rfl)
  have k0 := h0
  have lt0 : ∀ x ∈ p0, x.block < W.heap.size := by obtain ⟨m, hm⟩ := k0; exact DataW.trod_lt m _ _ _ hm
  obtain ⟨z0, w0⟩ : ∃ zs, IsRow .u8 W a0 len0 cap0 zs := by
    obtain ⟨fuel, hf⟩ := h0
    rcases open_ints Try.underlying22 Try.underlying5 (by kernel_rfl) hf with ⟨hcs, _⟩ | ⟨x, l, c, zs, hcs, _, hl, hm, hz, _, hcell, hwz⟩
    · simp [Value.cells] at hcs
      obtain ⟨rfl, rfl, rfl⟩ := hcs
      exact ⟨[], .inl ⟨rfl, rfl, rfl, rfl⟩⟩
    · simp [Value.cells] at hcs
      obtain ⟨rfl, rfl, rfl⟩ := hcs
      exact ⟨zs, .inr ⟨_, rfl, hl, hm, by simpa using hz, hcell, hwz⟩⟩
  clear hA0 hval0
  refine (walk a0 len0 cap0 z0 W w0).mono fun e W' ⟨he, bel⟩ => ?_
  subst he
  exact ⟨_, rfl, _, _, _, [], _, [], hW', trodAll_mk1 (shut_bool Try.underlying4 _), (trodAll_cons_mk (Below.trod laidOut (by kernel_rfl) (of_decide_eq_true (by kernel_rfl)) k0 bel lt0) trodAll_mk0), rfl, bel.frame _, fun h => by cases h⟩

theorem over : Rows.fnHashForFileNameMatchesBase32ModelRow.holds Try.pinned (OpenSpec.ofChange Rows.fnHashForFileNameMatchesBase32ModelSpec) :=
  OpenClaim.holds_of_wide 3 Try.f3 rfl rfl rfl rfl rfl rfl rfl ⟨rfl, rfl, rfl, rfl, rfl⟩ rfl rfl rfl rfl rfl (by kernel_rfl) Try.func3 (by kernel_rfl)
    (of_decide_eq_true (by kernel_rfl)) (by unfold Func.isWrapper; first | (rw [if_pos (by decide +kernel)]; kernel_rfl) | (rw [if_neg (by decide +kernel)]; exact ⟨rfl, rfl⟩))
    (fun os started H enc _ => lifted os started H enc)

/-- ████ THE STATEMENT ████ -/
theorem proved : Rows.FnHashForFileNameMatchesBase32ModelSaid := over
end Go.Proofs.Yteimbkhclmghhaa.fnHashForFileNameMatchesBase32Model
namespace Go.Proofs.Yteimbkhclmghhaa
theorem hash_model_holds : Rows.FnHashForFileNameMatchesBase32ModelSaid := fnHashForFileNameMatchesBase32Model.proved
end Go.Proofs.Yteimbkhclmghhaa

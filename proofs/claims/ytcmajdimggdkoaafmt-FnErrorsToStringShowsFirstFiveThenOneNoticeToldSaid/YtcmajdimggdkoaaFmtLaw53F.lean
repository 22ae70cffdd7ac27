/-
  FnErrorsToStringShowsFirstFiveThenOneNotice: for every input the law returns true and its arguments read as before; fmt's texts told, the listed variables tied. Conditions: none.
-/
import Derived.Test.YtcmajdimggdkoaaFmtLaw53A
import Derived.Test.YtcmajdimggdkoaaFmtOpn
import Derived.Test.YtcmajdimggdkoaaFmtLaid
import Derived.ProofKit
import Derived.Stop.Joined
import Derived.Stop.JoinedAt
import Derived.Stop.JoinedTold
import Derived.Stop.Texts
import Derived.OpenShut
import Derived.ShutString
import Derived.ChangeOld
import Derived.Below
import Derived.Lib.LaidIn
import Derived.SevenTiedAt
import Derived.OpenVars
import Derived.ChangeVars
import Derived.Test.YtcmajdimggdkoaaFmtCards
import Derived.Test.YtcmajdimggdkoaaFmtTie
namespace Go.Proofs.YtcmajdimggdkoaaFmt.fnErrorsToStringShowsFirstFiveThenOneNotice
open Go.ChangeShapes Go.WideShapes Go.ChangeAt Go.RowKit Go.Kit
open Go.ChangeMaps (open_string shut_string)
open Go.Extern.Stop Go.Stop Go.Extern
set_option linter.unusedVariables false

theorem own : ownKnob Tryf.prog.godebug = none := by kernel_rfl
theorem laidOut : laidOutB Tryf.pinned.checked.prog = true := by kernel_rfl
theorem stops : Tryf.pinned.checked.prog.stops = ["fmt.Sprintf"] := by kernel_rfl
theorem stopKnobs : Tryf.pinned.checked.prog.stopKnobs = [] := by kernel_rfl
theorem quiet (os : Os) : Stop.quiet Tryf.pinned.checked.prog os := by
  intro k hk
  rw [stopKnobs] at hk
  cases hk

noncomputable def laidWorld (os : Os) : World :=
  let w0 := World.holding Tryf.prog os ⟨#[], #[], []⟩
  let put (h : Array Obj) (g : Nat) (cs : Array Value) : Array Obj := h.modify g fun
    | .cells _ t frozen => .cells cs t frozen
    | o => o
  { w0 with heap := put (put (put (w0.heap) 3 (cellsLaid Rows.laid_unicode_utf8_acceptRanges)) 0 (cellsLaid Rows.laid_github_com_evanw_esbuild_internal_logger_TerminalColors)) 2 (cellsLaid Rows.laid_unicode_utf8_first) }

set_option maxRecDepth 1000000 in
theorem laid_met (os : Os) (args : Array Value) : laidMet Tryf.prog Rows.fnErrorsToStringShowsFirstFiveThenOneNoticeRow.laid ((laidWorld os).forCall (fun _ _ => 0) ⟨#[], args, []⟩).memory :=
  (LaidIn.of_run [3, 0, 2] 10 (by kernel_rfl) (by kernel_rfl) (by kernel_rfl) (by kernel_rfl)).met

set_option maxRecDepth 1000000 in
theorem lifted (os : Os) (started : os.Started) (H : Type) (enc : TypeId × Value → H) :
    ReturnsInTold none {} Tryf.checked os 6 .any Input.okWide ((OpenSpec.ofChange Rows.fnErrorsToStringShowsFirstFiveThenOneNoticeSpec).preRow enc Tryf.prog Tryf.f6 [] false Rows.fnErrorsToStringShowsFirstFiveThenOneNoticeRow.laid) (fun F => ((OpenSpec.ofChange Rows.fnErrorsToStringShowsFirstFiveThenOneNoticeSpec).at F).post enc Tryf.prog Tryf.f6 false true false false) (aloneAtReturn Tryf.prog) nothingAlways := by
  refine returnsInTold_of_row (C := Tryf.checked) (s := (OpenSpec.ofChange Rows.fnErrorsToStringShowsFirstFiveThenOneNoticeSpec)) (by kernel_rfl) own started (by kernel_rfl) Tryf.func6
    (OpenSpec.witness_stopped_at (enc := enc) (C := Tryf.checked) false (laidWorld os) #[.slice none 0 0, .string ByteArray.empty] rfl (by kernel_rfl) (by kernel_rfl) (by kernel_rfl)
      (OpenSpec.preRow_of_B rfl 8 (by kernel_rfl) (by kernel_rfl) (laid_met os _))) ?_
  intro F W base args ds gs before _ hF hval0 hW _ _ hsz hL _
  have hval : ∀ (j : Nat) t v, Tryf.f6.params[j]? = some t → args[j]? = some v → Value.okWide Tryf.prog W .any base t v := hval0
  have hW' := hW
  obtain ⟨p, q, hA0, hV, rfl, hfz, hnd⟩ := hW
  have hA : DataW.TrodAll enc Tryf.prog W 0 (fun _ => true) true Tryf.f6.params.toList args.toList ds p := hA0
  rw [Tryf.params6] at hA hval
  obtain ⟨v0, vs0, d0, ds0, p0, q0, hargs, rfl, rfl, h0, r0⟩ := trodAll_cons hA
  obtain ⟨v1, vs1, d1, ds1, p1, q1, rfl, rfl, rfl, h1, r1⟩ := trodAll_cons r0
  obtain ⟨rfl, rfl, rfl⟩ := trodAll_nil r1
  obtain rfl : args = #[v0, v1] := by cases args; simp_all
  have hV2 := hV
  obtain ⟨gv, tv, csv, fuelv, dv, pv, rfl, hv1, hv2, hv3, hv4, hv5⟩ := trodVars_one hV
  clear hv1 hv2 hv3 hv4 hv5 hV
  have k0 := h0
  have lt0 : ∀ x ∈ p0, x.block < W.heap.size := by obtain ⟨m, hm⟩ := k0; exact DataW.trod_lt m _ _ _ hm
  obtain ⟨a0, len0, cap0, xs0, rfl, hr0, hc0, hm0⟩ := open_rdv Tryf.underlying32 (by kernel_rfl) (hval 0 32 v0 rfl rfl) h0 Value.string (fun n u y h => mk_string Tryf.underlying9 n u y h)
  have k1 := h1
  have lt1 : ∀ x ∈ p1, x.block < W.heap.size := by obtain ⟨m, hm⟩ := k1; exact DataW.trod_lt m _ _ _ hm
  obtain ⟨s1, rfl, rfl, rfl, hs1⟩ := open_string Tryf.underlying9 (hval 1 9 v1 rfl rfl) h1
  clear hA0 hval0
  refine (law53_all F a0 len0 cap0 xs0 s1 W hF hr0).mono fun e W' ⟨he, bel⟩ => ?_
  subst he
  exact ⟨_, rfl, _, _, _, [], _, _, hW', trodAll_mk1 (shut_bool Tryf.underlying4 _), (trodAll_cons_mk (Below.trod laidOut (by kernel_rfl) (of_decide_eq_true (by kernel_rfl)) k0 bel lt0) (trodAll_cons_mk (Below.trod laidOut (by kernel_rfl) (of_decide_eq_true (by kernel_rfl)) k1 bel lt1) trodAll_mk0)), (Below.trodVars laidOut bel (by kernel_rfl) hV2), bel.frame _, fun h => by cases h⟩

set_option maxRecDepth 100000 in
theorem proved : Rows.FnErrorsToStringShowsFirstFiveThenOneNoticeToldSaid :=
  Claim7.holds_of_told_tied_any_at .later 6 Tryf.f6 "fmt.Sprintf" [] [] _ _ _ _ _ (by kernel_rfl) rfl rfl rfl laidOut (by kernel_rfl) rfl ⟨rfl, rfl, rfl, rfl, rfl, rfl, rfl⟩ rfl rfl (by kernel_rfl) (by kernel_rfl) Tryf.func6 (by kernel_rfl)
    (of_decide_eq_true (by kernel_rfl)) (of_decide_eq_true (by kernel_rfl)) stops.symm rfl stopKnobs.symm (by kernel_rfl)
    (by kernel_rfl) (by kernel_rfl) (by kernel_rfl) (by kernel_rfl) (by kernel_rfl) (by kernel_rfl) (by kernel_rfl) (by kernel_rfl) (by kernel_rfl) rfl (by kernel_rfl) rfl rfl
    rfl rfl
    rfl (by kernel_rfl) (by kernel_rfl) (by kernel_rfl) (by decide) (by kernel_rfl) fnErrorsToStringShowsFirstFiveThenOneNotice_row_tie
    (OpenClaim.moreEntering_of (by kernel_rfl) (by kernel_rfl) (by kernel_rfl) (by kernel_rfl) (by kernel_rfl) (by kernel_rfl) (by kernel_rfl) (by kernel_rfl) (by kernel_rfl) (by kernel_rfl))
    ⟨_, WideRow.started_initial, quiet _⟩
    (fun os started _ H enc _ => lifted os started H enc)
end Go.Proofs.YtcmajdimggdkoaaFmt.fnErrorsToStringShowsFirstFiveThenOneNotice
namespace Go.Proofs.YtcmajdimggdkoaaFmt
theorem notice_holds : Rows.FnErrorsToStringShowsFirstFiveThenOneNoticeToldSaid := fnErrorsToStringShowsFirstFiveThenOneNotice.proved
end Go.Proofs.YtcmajdimggdkoaaFmt
